import PyProof.Rows.All
import Wide.All
import OpenK.AllK
import Wide.FinOn
import Lean
import PySem.Challenge.RW_ij0048_01
open PySem PySem.W PySem.Calls PyProof.Rows PySem.Spec
set_option Elab.async false
set_option maxRecDepth 100000
set_option compiler.extract_closed false
namespace Mine
set_option synthInstance.maxSize 1 in
set_option maxHeartbeats 8000000 in
open_top hd for PySem.Challenge.rw_ij0048_01
end Mine
namespace Mine
theorem top_off : True := by
  w_top off
  trivial
end Mine

namespace Mine
/-- the walk stands still here -/
def Halt (P : Prop) : Prop := P
theorem halt {P : Prop} (h : Halt P) : P := h
theorem go_on {P : Prop} (h : P) : Halt P := h

/-- enter a def with nothing hidden: the callee's base is the whole heap at the call -/
theorem enter0 {prog : Program} {w : World} {A A₀ : Around} {s : Shared} {K : Frag} {L : Addr} {h₀ base : Heap} {m mg mb : Str → Option Value} {p : Program} {loose : List Str} {mean : ExcName → Option Value}
    {env : Env} {outer : List Env} {Q E : Value → Shared → Prop} {name qual : Str} {params : Arguments} {body : List Stmt} {scope : Scope} {dV kV doc pm cdv ct oc : Value} {an od : Option Addr} {osl : Array (Option Value)} {f : Addr} {args : Args} {binds : List (Str × Value)}
    (B : Below A₀ base outer h₀) (F : Fr h₀ L s.heap m) (X₀ : K.In h₀) (T : Top p loose mean mg mb h₀) (hA : A.frames = some (env :: outer)) (hf : env.frame = some L) (hke : env.scope.kind = .function)
    (ho : K.lookup f = some ⟨oc, od, .func (fnOf name qual params body scope dV kV doc pm an cdv ct), osl⟩) (hcd : codeIn K cdv qual = true) (hroom : A.depth < recursionLimit)
    (hbind : BindsTo s (fnOf name qual params body scope dV kV doc pm an cdv ct) args binds) (hloc : ∀ y ∈ binds, scope.names.lookup y.1 = some .local)
    (h : ∀ L' h₁, Fr s.heap L' h₁ (fun y => binds.reverse.lookup y) → News s.heap L' h₁ [] → Below A base (env :: outer) s.heap → K.In s.heap → Top p loose mean mg mb s.heap →
      wpAny (model prog w) (A.deeper (envOf qual scope L' f cdv)) (execs body (envOf qual scope L' f cdv))
        (fun fl s' => Q (match fl with | .ret v => v | _ => .none) s')
        (fun e s' => wpAny (model prog w) (A.deeper (envOf qual scope L' f cdv)) (leaving (envOf qual scope L' f cdv) e) (fun _ s'' => E e s'') (fun e' s'' => E e' s'') s')
        { s with heap := h₁, toks := s.toks + binds.length })
    (hco : scope.isCoroutine = false) (hgen : scope.isGenerator = false) (hk : scope.kind = .function)
    (hcell : ∀ x ∈ scope.names, x.2 ≠ .cell) :
    codeAny (model prog w) A (.call (.ref f) args) (fun r s' => match r with | .ok (.ret v) => Q v s' | .ok _ => False | .error e => E e s') s := by
  have B₁ := pushX B F hf hke
  have B₂ : Below A base (env :: outer) s.heap := ⟨hA, B₁.stays, B₁.frames⟩
  refine codeAny_call_def (fd := fnOf name qual params body scope dV kV doc pm an cdv ct) (body := body) (binds := binds) hroom ((X₀.keeps F.keep) _ _ ho) rfl (T.nolimit.keeps F.keep) (codeRec_of (X₀.keeps F.keep) hcd) rfl hbind hcell hloc (fun h₁ hns hk₁ => ?_) hco hgen hk
  exact wpAny_mono (h s.heap.objs.size h₁ ⟨hns, hk₁, Nat.le_refl _⟩ News.nil B₂ (X₀.keeps F.keep) (T.keeps F.keep)) (fun fl s' hl => hl) fun _ _ y => y

/-- a tree that looks, then makes one object, then looks: it comes to what the look says -/
theorem wp_peeks {α : Type} {K : Frag} {M : Model} {A : Around} {E : Value → Shared → Prop} {Q : α → Shared → Prop} {s : Shared} {o : Obj} {r : Addr → α} (X : K.In s.heap)
    (q : Q (r s.heap.objs.size) { s with heap := s.heap.push o }) :
    ∀ (t : Sem α) (g : Addr → Option α), peek1 K ⟨M.prog, M.w.params⟩ t = some (o, g) → (∀ D, g D = some (r D)) → wpAny M A t Q E s := by
  intro t
  induction t with
  | rule _ k ih => exact fun g e hg Γ p hΓ => ih () g e hg Γ p hΓ
  | point _ k ih => exact fun g e hg Γ p hΓ => ih () g e hg Γ p hΓ
  | ask k ih => exact fun g e hg Γ p hΓ => ih _ g e hg Γ p hΓ
  | load a _ k ih =>
    intro g e hg Γ p hΓ
    simp only [peek1] at e
    split at e
    · rename_i ob ho; exact ⟨ob, X _ _ ho, ih ob g e hg Γ p hΓ⟩
    · cases e
  | alloc ob k _ =>
    intro g e hg
    have e : some (ob, fun D => peek K ⟨M.prog, M.w.params⟩ (k D)) = some (o, g) := e
    obtain ⟨e1, e2⟩ := Prod.mk.inj (Option.some.inj e)
    subst e1
    subst e2
    have X' : K.In (s.heap.push ob) := X.keeps fun b x hb => Heap.get?_push_of_some _ hb
    show wpAny M A (alloc ob >>= k) Q E s
    exact wpAny_bind (wpAny_alloc ((Looks.of_peek (M := M) (h := s.heap.push ob) X' (hg s.heap.objs.size)).here (s := { s with heap := s.heap.push ob }) q))
  | _ => intro g e; cases e

/-- as enter0, for a def with a starred parameter -/
theorem enterRest {prog : Program} {w : World} {A A₀ : Around} {s : Shared} {K : Frag} {L : Addr} {h₀ base : Heap} {m mg mb : Str → Option Value} {p : Program} {loose : List Str} {mean : ExcName → Option Value}
    {env : Env} {outer : List Env} {Q E : Value → Shared → Prop} {name qual : Str} {params : Arguments} {body : List Stmt} {scope : Scope} {dV kV doc pm cdv ct oc : Value} {an od : Option Addr} {osl : Array (Option Value)} {f : Addr} {args : Args} {vs : List Value} {g₁ : Addr → Option (List (Str × Value))} {binds : Addr → List (Str × Value)}
    (B : Below A₀ base outer h₀) (F : Fr h₀ L s.heap m) (X₀ : K.In h₀) (T : Top p loose mean mg mb h₀) (hA : A.frames = some (env :: outer)) (hf : env.frame = some L) (hke : env.scope.kind = .function)
    (ho : K.lookup f = some ⟨oc, od, .func (fnOf name qual params body scope dV kV doc pm an cdv ct), osl⟩) (hcd : codeIn K cdv qual = true) (hroom : A.depth < recursionLimit)
    (hv : args.pos.drop (params.posonlyargs.length + params.args.length) = vs)
    (hp : peek1 K ⟨prog, w.params⟩ (bindArgs (fnOf name qual params body scope dV kV doc pm an cdv ct) args) = some (({ cls := .type "tuple", data := .seq vs.toArray } : Obj), g₁))
    (hg : ∀ D, g₁ D = some (binds D)) (hloc : ∀ D, ∀ y ∈ binds D, scope.names.lookup y.1 = some .local)
    (h : ∀ D L' h₁, Fr s.heap L' h₁ (fun y => (binds D).reverse.lookup y) → News s.heap L' h₁ [(D, ({ cls := .type "tuple", data := .seq vs.toArray } : Obj))] → Below A base (env :: outer) s.heap → K.In s.heap → Top p loose mean mg mb s.heap →
      wpAny (model prog w) (A.deeper (envOf qual scope L' f cdv)) (execs body (envOf qual scope L' f cdv))
        (fun fl s' => Q (match fl with | .ret v => v | _ => .none) s')
        (fun e s' => wpAny (model prog w) (A.deeper (envOf qual scope L' f cdv)) (leaving (envOf qual scope L' f cdv) e) (fun _ s'' => E e s'') (fun e' s'' => E e' s'') s')
        { s with heap := h₁, toks := s.toks + (binds D).length })
    (hco : scope.isCoroutine = false) (hgen : scope.isGenerator = false) (hk : scope.kind = .function)
    (hcell : ∀ x ∈ scope.names, x.2 ≠ .cell) :
    codeAny (model prog w) A (.call (.ref f) args) (fun r s' => match r with | .ok (.ret v) => Q v s' | .ok _ => False | .error e => E e s') s := by
  have _ := hv
  have B₁ := pushX B F hf hke
  have B₂ : Below A base (env :: outer) s.heap := ⟨hA, B₁.stays, B₁.frames⟩
  refine codeAny_call_function (fd := fnOf name qual params body scope dV kV doc pm an cdv ct) (body := body) hroom ((X₀.keeps F.keep) _ _ ho) rfl hco hgen rfl (codeRec_of (X₀.keeps F.keep) hcd) ?_
  refine wp_peeks (o := ({ cls := .type "tuple", data := .seq vs.toArray } : Obj)) (X₀.keeps F.keep) (r := binds) ?_ _ g₁ hp hg
  have kp : ∀ b o', s.heap.get? b = some o' → (s.heap.push ({ cls := .type "tuple", data := .seq vs.toArray } : Obj)).get? b = some o' := fun b o' e => Heap.get?_push_of_some _ e
  refine wpAny_newFunctionEnv hcell (hloc _) (fun h₁ hns hsb => ⟨((T.nolimit.keeps F.keep).keeps kp).fresh _ hsb, codeAny_func ?_⟩) hk
  have hk₁ : ∀ b o', (s.heap.push ({ cls := .type "tuple", data := .seq vs.toArray } : Obj)).get? b = some o' → h₁.get? b = some o' := fun b o' e => hsb.extBut b o' (Nat.ne_of_lt (Heap.lt_size e)) (Heap.get?_push_of_some _ e)
  have hD : (s.heap.push ({ cls := .type "tuple", data := .seq vs.toArray } : Obj)).get? s.heap.objs.size = some ({ cls := .type "tuple", data := .seq vs.toArray } : Obj) := Heap.get?_push_size _ rfl
  have hsz : s.heap.objs.size < (s.heap.push ({ cls := .type "tuple", data := .seq vs.toArray } : Obj)).objs.size := Heap.lt_size hD
  refine wpAny_mono (h s.heap.objs.size _ h₁ ⟨hns, fun b o' e => hk₁ b o' (kp b o' e), Nat.le_of_lt hsz⟩ (fun q hq => ?_) B₂ (X₀.keeps F.keep) (T.keeps F.keep)) (fun fl s' hl => hl) fun _ _ y => y
  rw [List.mem_singleton.mp hq]
  refine ⟨hk₁ _ _ hD, Nat.ne_of_lt hsz, ?_⟩
  cases e : s.heap.get? s.heap.objs.size with
  | none => rfl
  | some o' => exact absurd (Heap.lt_size e) (Nat.lt_irrefl _)

noncomputable abbrev loose0 : List Str := looseW hd.view_39 [Str.ofString "escape"]

/-- a contract: f called with vs, under pre of the heap, hands back v and keeps all that stood; R tells of the heap before, the heap behind and v -/
abbrev Tell (w : World) (mean : ExcName → Option Value) (mg mb : Str → Option Value) (f : Addr) (dd uu : Nat) (vs : List Value) (pre : Shared → Prop) (R : Heap → Heap → Value → Prop) : Prop :=
  ∀ (dp un : Nat) (gd : Option (List Code)) (cn : Str) (cs : Scope) (a : Addr) (ccd : Value) (cl : List (Str × Addr)) (outer : List Env) (A₀ : Around) (base h₀ : Heap) (L : Addr) (m : Str → Option Value) (s : Shared) (Q E : Value → Shared → Prop),
    Below A₀ base outer h₀ → Fr h₀ L s.heap m → (hd.heap_39 w.params).In h₀ → Top hd.view_39 loose0 mean mg mb h₀ → cs.kind = .function → pre s → dp + dd < recursionLimit → un + uu < cLine →
    (∀ v h' tk', s.heap.StaysIn h' → R s.heap h' v → Q v { s with heap := h', toks := tk' }) →
    wpAny (model PySem.Challenge.rw_ij0048_01.row.prog w) (ktrTop dp un gd cn cs L a ccd cl outer) (call (.ref f) vs) Q E s

theorem tell_use {w : World} {mean : ExcName → Option Value} {mg mb : Str → Option Value} {f : Addr} {dd uu : Nat} {vs : List Value} {pre : Shared → Prop} {R : Heap → Heap → Value → Prop}
    {dp un : Nat} {gd : Option (List Code)} {cn : Str} {cs : Scope} {a : Addr} {ccd : Value} {cl : List (Str × Addr)} {outer : List Env} {A₀ : Around} {base h₀ : Heap} {L : Addr} {m : Str → Option Value} {s : Shared} {Q E : Value → Shared → Prop} {news : List (Addr × Obj)}
    (C : Tell w mean mg mb f dd uu vs pre R)
    (B : Below A₀ base outer h₀) (F : Fr h₀ L s.heap m) (X : (hd.heap_39 w.params).In h₀) (N : News h₀ L s.heap news) (T : Top hd.view_39 loose0 mean mg mb h₀) (hk : cs.kind = .function) (hp : pre s)
    (hdp : dp + dd < recursionLimit) (hun : un + uu < cLine)
    (ret : ∀ v h' tk', Fr h₀ L h' m → News h₀ L h' news → s.heap.StaysIn h' → R s.heap h' v → Q v { s with heap := h', toks := tk' }) :
    wpAny (model PySem.Challenge.rw_ij0048_01.row.prog w) (ktrTop dp un gd cn cs L a ccd cl outer) (call (.ref f) vs) Q E s := by
  refine C _ _ _ _ _ _ _ _ _ _ _ _ _ _ _ _ _ B F X T hk hp hdp hun fun v h' tk' st r => ret v h' tk' ?_ ?_ st r
  · obtain ⟨oL, es, ep, hL, rest⟩ := F.ns
    exact ⟨⟨oL, es, ep, st _ _ hL, rest⟩, fun b o e => st _ _ (F.keep b o e), F.above⟩
  · exact fun p hp => ⟨st _ _ (N p hp).1, (N p hp).2⟩

/-- a new object of the callee's, on the caller's ledger -/
theorem news_cons {h₀ h h' : Heap} {L a : Addr} {m : Str → Option Value} {o : Obj} {news : List (Addr × Obj)} (F : Fr h₀ L h m) (N : News h₀ L h' news) (ha : h'.get? a = some o) (h1 : h.get? a = none) : News h₀ L h' ((a, o) :: news) := by
  intro p hp
  rcases List.mem_cons.mp hp with rfl | hp
  · refine ⟨ha, fun e => ?_, ?_⟩
    · obtain ⟨oL, es, ep, hL, rest⟩ := F.ns
      rw [show a = L from e, hL] at h1; cases h1
    · cases q : h₀.get? a with
      | none => rfl
      | some o => rw [F.keep _ _ q] at h1; cases h1
  · exact N p hp

/-- a contract used where what comes back is new -/
theorem tell_new {w : World} {mean : ExcName → Option Value} {mg mb : Str → Option Value} {f : Addr} {dd uu : Nat} {vs : List Value} {pre : Shared → Prop} {R : Heap → Heap → Value → Prop}
    {dp un : Nat} {gd : Option (List Code)} {cn : Str} {cs : Scope} {a : Addr} {ccd : Value} {cl : List (Str × Addr)} {outer : List Env} {A₀ : Around} {base h₀ : Heap} {L : Addr} {m : Str → Option Value} {s : Shared} {Q E : Value → Shared → Prop} {news : List (Addr × Obj)}
    (C : Tell w mean mg mb f dd uu vs pre R)
    (B : Below A₀ base outer h₀) (F : Fr h₀ L s.heap m) (X : (hd.heap_39 w.params).In h₀) (N : News h₀ L s.heap news) (T : Top hd.view_39 loose0 mean mg mb h₀) (hk : cs.kind = .function) (hp : pre s)
    (hdp : dp + dd < recursionLimit) (hun : un + uu < cLine)
    (ret : ∀ v h' tk', Fr h₀ L h' m → News h₀ L h' news → (∀ b o, s.heap.get? b = none → h'.get? b = some o → News h₀ L h' ((b, o) :: news)) → R s.heap h' v → Q v { s with heap := h', toks := tk' }) :
    wpAny (model PySem.Challenge.rw_ij0048_01.row.prog w) (ktrTop dp un gd cn cs L a ccd cl outer) (call (.ref f) vs) Q E s :=
  tell_use C B F X N T hk hp hdp hun fun v h' tk' F' N' _ r => ret v h' tk' F' N' (fun _ _ h1 h2 => news_cons F N' h2 h1) r

/-- what splitroot hands back behind its first, empty part -/
def splitS (x : Str) : Str × Str :=
  if (Txt.slice x none (some 1) != Str.ofString "/") = true then (Str.ofString "", x)
  else if (Txt.slice x (some 1) (some 2) != Str.ofString "/") = true then (Str.ofString "/", Txt.slice x (some 1) none)
  else if (Txt.slice x (some 2) (some 3) == Str.ofString "/") = true then (Str.ofString "/", Txt.slice x (some 1) none)
  else (Txt.slice x none (some 2), Txt.slice x (some 2) none)

/-- a name's value laid over the others: a short word for it keeps the proof terms small -/
def put (x : Str) (v : Value) (m : Str → Option Value) : Str → Option Value := fun y => if y = x then some v else m y
section
variable {M : Model} {A : Around} {E : Value → Shared → Prop} {s : Shared} {h₀ : Heap} {L a : Addr} {m : Str → Option Value} {cn : Str} {cs : Scope} {ccd : Value} {cl : List (Str × Addr)} {x : Str} {v : Value} {Q : Unit → Shared → Prop} {news : List (Addr × Obj)}
theorem store_put (F : Fr h₀ L s.heap m) (N : News h₀ L s.heap news) (h : ∀ h', Fr h₀ L h' (put x v m) → News h₀ L h' news → Q () { s with heap := h', toks := s.toks + 1 })
    (hk : cs.kind = .function) (hx : (envX cn cs L a ccd cl).kindOf x = some .local) : wpAny M A (storeName (envX cn cs L a ccd cl) x v) Q E s := storeX_L F N h hk hx
end
theorem look_puts : ∀ l : List (Str × Value), (fun y => List.lookup y l) = l.foldr (fun p m => put p.1 p.2 m) (fun _ => none)
  | [] => rfl
  | p :: l => by
    have ih := look_puts l
    funext y
    have ihy : List.lookup y l = l.foldr (fun p m => put p.1 p.2 m) (fun _ => none) y := congrFun ih y
    obtain ⟨k, b⟩ := p
    show List.lookup y ((k, b) :: l) = if y = k then some b else l.foldr (fun p m => put p.1 p.2 m) (fun _ => none) y
    by_cases h : y = k
    · rw [if_pos h, h]; simp
    · rw [if_neg h, ← ihy, List.lookup_cons, show (y == k) = false from by simpa using h]
theorem fr_puts {h₀ h : Heap} {L : Addr} (l : List (Str × Value)) (F : Fr h₀ L h (fun y => List.lookup y l)) : Fr h₀ L h (l.foldr (fun p m => put p.1 p.2 m) fun _ => none) := by rw [← look_puts]; exact F
end Mine
local macro_rules | `(tactic| walk_at $s:str) => `(tactic| k_extra $s)
local macro_rules | `(tactic| k_call_by "use" $t:term) => `(tactic| (refine' Mine.tell_use $t ?k1 ?k2 ?k3 ?k4 ?k5 ?kK ?kp ?kd ?ku ?_; (case k1 => k_asm); (case k2 => k_asm); (case k3 => k_asm); (case k4 => k_asm); (case k5 => k_asm); (case kK => first | exact rfl | assumption); (case kd => first | decide | (refine Nat.lt_of_le_of_lt ?_ (by assumption); simp +arith; done) | ktr_room); (case ku => first | decide | (refine Nat.lt_of_le_of_lt ?_ (by assumption); simp +arith; done) | ktr_units)))
local macro_rules | `(tactic| k_call_by "new" $t:term) => `(tactic| (refine' Mine.tell_new $t ?k1 ?k2 ?k3 ?k4 ?k5 ?kK ?kp ?kd ?ku ?_; (case k1 => k_asm); (case k2 => k_asm); (case k3 => k_asm); (case k4 => k_asm); (case k5 => k_asm); (case kK => first | exact rfl | assumption); (case kd => first | decide | (refine Nat.lt_of_le_of_lt ?_ (by assumption); simp +arith; done) | ktr_room); (case ku => first | decide | (refine Nat.lt_of_le_of_lt ?_ (by assumption); simp +arith; done) | ktr_units)))

namespace Mine
section
variable {prog : Program} {w : World} {A : Around} {E : Value → Shared → Prop} {s : Shared}
theorem entry_issubn : entryFor table "issubclass.nested" = some Builtin.«issubclass.nested» := F.entry_issubclass_nested
theorem kind_issubn : builtinKind "issubclass.nested" = none := by decide +kernel
theorem plain_issubn : plainId "issubclass.nested" = true := by decide +kernel
theorem args_issubn (a b c : Value) : argsOk "issubclass.nested" ⟨[a, b, c], []⟩ := by unfold argsOk; kernel_rfl
theorem sub_str : isSubtype (.type "str") (.type "str") = pure true := by rw [isSubtype_type]; kernel_rfl
theorem ty_str : typeOf (.type "str") = pure (.type "type") := by kernel_rfl
theorem issub_self {k : Value} {dep : Int} {tk : Tok} {Q : Fin → Shared → Prop} (hk : k = .int dep tk) (hq : Q (.done (.ret (.bool true))) s) :
    wpAny (model prog w) A (Builtin.«issubclass.nested» ⟨[.type "str", .type "str", k], []⟩) Q E s := by
  subst hk
  have hm := ty_str
  have hself := sub_str
  repeat (any_goals (first | assumption | (rw [if_pos hm]) | (rw [hself]) | wp_step))
theorem issub_meets {dep : Int} {tk : Tok} : Meets (Builtin.«issubclass.nested» ⟨[.type "str", .type "str", .int dep tk], []⟩) (fun _ R s => R (.ok (.ret (.bool true))) s) :=
  fun _ _ _ _ _ hs => issub_self rfl hs
theorem issub_nested {tp : Addr} {cs : List Value} {c : Value} {tk : Tok} {Q : Fin → Shared → Prop} (hcs : cs = [.type "str", c]) (htp : s.heap.get? tp = some { cls := .type "tuple", data := .seq cs.toArray })
    (hq : ∀ tk', Q (.done (.ret (.bool true))) { s with toks := tk' }) : wpAny (model prog w) A (Builtin.«issubclass.nested» ⟨[.type "str", .ref tp, .int 0 tk], []⟩) Q E s := by
  obtain ⟨h, g, d, t, os⟩ := s
  have hT2 : (⟨h, g, d, t, os⟩ : Shared).TypeIs (.ref tp) "tuple" := ⟨_, htp, rfl⟩
  have f1 := F.isi_sub_tuple
  repeat (any_goals (first | assumption | wp_step))
  refine wpAny_arrayLoop ?_
  subst hcs
  simp only [Option.getD_some]
  rw [List.forIn_cons]
  refine wpAny_bind (wpAny_bind (call_function_meets kind_issubn plain_issubn entry_issubn (args_issubn _ _ _) issub_meets ?_))
  show wpAny _ _ (truthy (.bool true) >>= _) _ _ _
  refine wpAny_bind (m := truthy (.bool true)) (wpAny_pure ?_)
  exact wpAny_bind (wpAny_pure (wpAny_pure (wpAny_pure (wpAny_pure (hq _)))))
theorem issub_tuple {tp : Addr} {c : Value} {Q : Value → Shared → Prop} (htp : s.heap.get? tp = some { cls := .type "tuple", data := .seq #[.type "str", c] }) (h : ∀ tk', Q (.bool true) { s with toks := tk' }) :
    wpAny (model prog w) A (call (.builtin "issubclass") [.type "str", .ref tp]) Q E s :=
  call_issubclass (S := fun _ R s => s.heap.get? tp = some { cls := .type "tuple", data := .seq #[.type "str", c] } ∧ ∀ tk, R (.ok (.ret (.bool true))) { s with toks := tk })
    (fun _ _ _ _ _ hs => issubclass_outer (issub_nested (cs := [.type "str", c]) rfl hs.1 hs.2)) ⟨htp, h⟩
end
end Mine

namespace Mine
set_option maxHeartbeats 4000000 in
theorem fspath_tells (w : World) (mean : ExcName → Option Value) (mg mb : Str → Option Value) (x : Str) (t : Tok) :
    Tell w mean mg mb 94 1 8 [.str x t] (fun _ => True) (fun _ _ v => v = .str x t) := by
  k_with_none
  k_with "call builtin:issubclass" => (k_here; (with_reducible show wpAny _ _ (call (Value.builtin "issubclass") [Value.type "str", Value.ref _]) _ _ _); k_dflt (refine' Mine.issub_tuple (by exact News.get (by k_asm) (by k_mem)) ?_; k_whole); intro tk')
  k_with "call ref" => (k_here; (with_reducible show wpAny _ _ (call (Value.ref 94) [Value.str _ _]) _ _ _); k_dflt (k_call_by "use" (Mine.fspath_tells _ _ _ _ _ _)); (case kp => trivial); intro v' h' tk' F' N' st' r'; subst r'; clear st'; (try dsimp only); (try k_fold); (try k_sweep))
  k_with "call ref" => (k_here; (with_reducible show wpAny _ _ (call (Value.ref 108) [Value.str _ _]) _ _ _); k_dflt (k_call_by "use" (Mine.getsep_tells _ _ _ _ _ _)); (case kp => trivial); intro v' h' tk' F' N' st' r'; (try dsimp only at r'); obtain ⟨t', r'⟩ := r'; subst r'; clear st'; (try dsimp only); (try k_fold); (try k_sweep))
  k_with "call ref" => (k_here; (with_reducible show wpAny _ _ (call (Value.ref 122) [Value.str _ _]) _ _ _); k_dflt (k_call_by "new" (Mine.splitroot_tells _ _ _ _ _ _ (by first | assumption | lia))); (case kp => trivial); intro v' h' tk' F' N' nw' r'; (try dsimp only at r'); obtain ⟨a', t1', t2', t3', r', r2', r3'⟩ := r'; subst r'; (replace N' := nw' _ _ r2' r3'); clear nw' r2' r3'; (try dsimp only); (try k_fold); (try k_sweep))
  k_with "storeName" => (k_here; k_dflt (refine' Mine.store_put (by k_asm) (by k_asm) ?_ (by rfl) (by rfl); k_whole; intro h' F' N'; (try k_sweep)))
  unfold Tell
  k_fill
  intro dp un gd cn cs a ccd cl outer A₀ base h₀ L m s Q E B F X T hk hp hdp hun hret
  have N : News h₀ L s.heap [] := News.nil
  refine wpAny_call ?_
  k_dflt (refine' Mine.enter0 ?k1 ?k2 ?k3 ?k5 ?kA ?kF ?kK ?k6 ?k7 ?k8 ?k9 ?kB ?_ ?c2 ?c3 ?c4 ?c5; (case kA => exact rfl); (case kF => exact rfl); (case kK => assumption); (case k1 => k_asm); (case k2 => k_asm); (case k3 => k_asm); (case k5 => k_asm); (case k6 => k_is); (case k7 => k_is); (case k8 => ktr_room); (case k9 => first | exact BindsTo.of_eq rfl | exact binds_K (by k_in) rfl (by k_is) rfl rfl rfl); (case c5 => decide); (case kB => exact locs rfl); (case c2 => exact rfl); (case c3 => exact rfl); (case c4 => exact rfl); k_whole; intro L' h' F' N' B' X' T'; (try dsimp only); (try k_lift B'); (try k_fold))
  replace F' : Fr _ _ _ (Mine.put (Str.ofString "path") (.str x t) fun _ => none) := Mine.fr_puts [(Str.ofString "path", .str x t)] F'
  k_steps
  all_goals exact hret _ _ _ (Fr.keep (by assumption)) rfl
end Mine

namespace Mine
set_option maxHeartbeats 4000000 in
theorem getsep_tells (w : World) (mean : ExcName → Option Value) (mg mb : Str → Option Value) (x : Str) (t : Tok) :
    Tell w mean mg mb 108 1 8 [.str x t] (fun _ => True) (fun _ _ v => ∃ t', v = .str (Str.ofString "/") t') := by
  k_with_none
  k_with "call builtin:issubclass" => (k_here; (with_reducible show wpAny _ _ (call (Value.builtin "issubclass") [Value.type "str", Value.ref _]) _ _ _); k_dflt (refine' Mine.issub_tuple (by exact News.get (by k_asm) (by k_mem)) ?_; k_whole); intro tk')
  k_with "call ref" => (k_here; (with_reducible show wpAny _ _ (call (Value.ref 94) [Value.str _ _]) _ _ _); k_dflt (k_call_by "use" (Mine.fspath_tells _ _ _ _ _ _)); (case kp => trivial); intro v' h' tk' F' N' st' r'; subst r'; clear st'; (try dsimp only); (try k_fold); (try k_sweep))
  k_with "call ref" => (k_here; (with_reducible show wpAny _ _ (call (Value.ref 108) [Value.str _ _]) _ _ _); k_dflt (k_call_by "use" (Mine.getsep_tells _ _ _ _ _ _)); (case kp => trivial); intro v' h' tk' F' N' st' r'; (try dsimp only at r'); obtain ⟨t', r'⟩ := r'; subst r'; clear st'; (try dsimp only); (try k_fold); (try k_sweep))
  k_with "call ref" => (k_here; (with_reducible show wpAny _ _ (call (Value.ref 122) [Value.str _ _]) _ _ _); k_dflt (k_call_by "new" (Mine.splitroot_tells _ _ _ _ _ _ (by first | assumption | lia))); (case kp => trivial); intro v' h' tk' F' N' nw' r'; (try dsimp only at r'); obtain ⟨a', t1', t2', t3', r', r2', r3'⟩ := r'; subst r'; (replace N' := nw' _ _ r2' r3'); clear nw' r2' r3'; (try dsimp only); (try k_fold); (try k_sweep))
  k_with "storeName" => (k_here; k_dflt (refine' Mine.store_put (by k_asm) (by k_asm) ?_ (by rfl) (by rfl); k_whole; intro h' F' N'; (try k_sweep)))
  unfold Tell
  k_fill
  intro dp un gd cn cs a ccd cl outer A₀ base h₀ L m s Q E B F X T hk hp hdp hun hret
  have N : News h₀ L s.heap [] := News.nil
  refine wpAny_call ?_
  k_dflt (refine' Mine.enter0 ?k1 ?k2 ?k3 ?k5 ?kA ?kF ?kK ?k6 ?k7 ?k8 ?k9 ?kB ?_ ?c2 ?c3 ?c4 ?c5; (case kA => exact rfl); (case kF => exact rfl); (case kK => assumption); (case k1 => k_asm); (case k2 => k_asm); (case k3 => k_asm); (case k5 => k_asm); (case k6 => k_is); (case k7 => k_is); (case k8 => ktr_room); (case k9 => first | exact BindsTo.of_eq rfl | exact binds_K (by k_in) rfl (by k_is) rfl rfl rfl); (case c5 => decide); (case kB => exact locs rfl); (case c2 => exact rfl); (case c3 => exact rfl); (case c4 => exact rfl); k_whole; intro L' h' F' N' B' X' T'; (try dsimp only); (try k_lift B'); (try k_fold))
  replace F' : Fr _ _ _ (Mine.put (Str.ofString "path") (.str x t) fun _ => none) := Mine.fr_puts [(Str.ofString "path", .str x t)] F'
  k_steps
  all_goals exact hret _ _ _ (Fr.keep (by assumption)) ⟨_, rfl⟩
end Mine

namespace Mine
set_option maxHeartbeats 4000000 in
theorem basename_tells (w : World) (mean : ExcName → Option Value) (mg mb : Str → Option Value) (x : Str) (t : Tok) (hx : x.length ≤ 1048576) :
    Tell w mean mg mb 129 3 24 [.str x t] (fun _ => True) (fun _ _ v => ∃ t', v = .str (Txt.slice x (some (Txt.rfind x (Str.ofString "/") + 1)) none) t') := by
  k_with_none
  k_with "call builtin:issubclass" => (k_here; (with_reducible show wpAny _ _ (call (Value.builtin "issubclass") [Value.type "str", Value.ref _]) _ _ _); k_dflt (refine' Mine.issub_tuple (by exact News.get (by k_asm) (by k_mem)) ?_; k_whole); intro tk')
  k_with "call ref" => (k_here; (with_reducible show wpAny _ _ (call (Value.ref 94) [Value.str _ _]) _ _ _); k_dflt (k_call_by "use" (Mine.fspath_tells _ _ _ _ _ _)); (case kp => trivial); intro v' h' tk' F' N' st' r'; subst r'; clear st'; (try dsimp only); (try k_fold); (try k_sweep))
  k_with "call ref" => (k_here; (with_reducible show wpAny _ _ (call (Value.ref 108) [Value.str _ _]) _ _ _); k_dflt (k_call_by "use" (Mine.getsep_tells _ _ _ _ _ _)); (case kp => trivial); intro v' h' tk' F' N' st' r'; (try dsimp only at r'); obtain ⟨t', r'⟩ := r'; subst r'; clear st'; (try dsimp only); (try k_fold); (try k_sweep))
  k_with "call ref" => (k_here; (with_reducible show wpAny _ _ (call (Value.ref 122) [Value.str _ _]) _ _ _); k_dflt (k_call_by "new" (Mine.splitroot_tells _ _ _ _ _ _ (by first | assumption | lia))); (case kp => trivial); intro v' h' tk' F' N' nw' r'; (try dsimp only at r'); obtain ⟨a', t1', t2', t3', r', r2', r3'⟩ := r'; subst r'; (replace N' := nw' _ _ r2' r3'); clear nw' r2' r3'; (try dsimp only); (try k_fold); (try k_sweep))
  k_with "storeName" => (k_here; k_dflt (refine' Mine.store_put (by k_asm) (by k_asm) ?_ (by rfl) (by rfl); k_whole; intro h' F' N'; (try k_sweep)))
  unfold Tell
  k_fill
  intro dp un gd cn cs a ccd cl outer A₀ base h₀ L m s Q E B F X T hk hp hdp hun hret
  have N : News h₀ L s.heap [] := News.nil
  refine wpAny_call ?_
  k_dflt (refine' Mine.enter0 ?k1 ?k2 ?k3 ?k5 ?kA ?kF ?kK ?k6 ?k7 ?k8 ?k9 ?kB ?_ ?c2 ?c3 ?c4 ?c5; (case kA => exact rfl); (case kF => exact rfl); (case kK => assumption); (case k1 => k_asm); (case k2 => k_asm); (case k3 => k_asm); (case k5 => k_asm); (case k6 => k_is); (case k7 => k_is); (case k8 => ktr_room); (case k9 => first | exact BindsTo.of_eq rfl | exact binds_K (by k_in) rfl (by k_is) rfl rfl rfl); (case c5 => decide); (case kB => exact locs rfl); (case c2 => exact rfl); (case c3 => exact rfl); (case c4 => exact rfl); k_whole; intro L' h' F' N' B' X' T'; (try dsimp only); (try k_lift B'); (try k_fold))
  replace F' : Fr _ _ _ (Mine.put (Str.ofString "p") (.str x t) fun _ => none) := Mine.fr_puts [(Str.ofString "p", .str x t)] F'
  k_steps
  all_goals exact hret _ _ _ (Fr.keep (by assumption)) ⟨_, rfl⟩
end Mine

namespace Mine
abbrev SplitEnd (x : Str) (h h' : Heap) (v : Value) : Prop := ∃ a t1 t2 t3, v = .ref a ∧ h.get? a = none ∧ h'.get? a = some { cls := .type "tuple", data := .seq #[.str (Str.ofString "") t1, .str (splitS x).1 t2, .str (splitS x).2 t3] }
section
variable {x : Str} {h h' : Heap} {L D : Addr} {t1 t2 t3 : Tok} {rest : List (Addr × Obj)} {y z : Str}
theorem split_end (N : News h L h' ((D, { cls := .type "tuple", data := .seq #[.str (Str.ofString "") t1, .str y t2, .str z t3] }) :: rest)) (e : splitS x = (y, z)) : SplitEnd x h h' (.ref D) :=
  ⟨D, t1, t2, t3, rfl, N.fresh (.head _), by rw [e]; exact N.get (.head _)⟩
theorem split_end1 (N : News h L h' ((D, { cls := .type "tuple", data := .seq #[.str (Str.ofString "") t1, .str (Str.ofString "") t2, .str x t3] }) :: rest)) (c : (Txt.slice x none (some 1) != Str.ofString "/") = true) : SplitEnd x h h' (.ref D) :=
  split_end N (by unfold splitS; rw [if_pos c])
theorem split_end2 (N : News h L h' ((D, { cls := .type "tuple", data := .seq #[.str (Str.ofString "") t1, .str (Str.ofString "/") t2, .str (Txt.slice x (some 1) none) t3] }) :: rest)) (c : (Txt.slice x none (some 1) != Str.ofString "/") = false) (c2 : (Txt.slice x (some 1) (some 2) != Str.ofString "/") = true) : SplitEnd x h h' (.ref D) :=
  split_end N (by unfold splitS; rw [if_neg (by rw [c]; decide), if_pos c2])
theorem split_end3 (N : News h L h' ((D, { cls := .type "tuple", data := .seq #[.str (Str.ofString "") t1, .str (Str.ofString "/") t2, .str (Txt.slice x (some 1) none) t3] }) :: rest)) (c : (Txt.slice x none (some 1) != Str.ofString "/") = false) (c2 : (Txt.slice x (some 1) (some 2) != Str.ofString "/") = false) (c3 : (Txt.slice x (some 2) (some 3) == Str.ofString "/") = true) : SplitEnd x h h' (.ref D) :=
  split_end N (by unfold splitS; rw [if_neg (by rw [c]; decide), if_neg (by rw [c2]; decide), if_pos c3])
theorem split_end4 (N : News h L h' ((D, { cls := .type "tuple", data := .seq #[.str (Str.ofString "") t1, .str (Txt.slice x none (some 2)) t2, .str (Txt.slice x (some 2) none) t3] }) :: rest)) (c : (Txt.slice x none (some 1) != Str.ofString "/") = false) (c2 : (Txt.slice x (some 1) (some 2) != Str.ofString "/") = false) (c3 : (Txt.slice x (some 2) (some 3) == Str.ofString "/") = false) : SplitEnd x h h' (.ref D) :=
  split_end N (by unfold splitS; rw [if_neg (by rw [c]; decide), if_neg (by rw [c2]; decide), if_neg (by rw [c3]; decide)])
end
set_option maxHeartbeats 4000000 in
theorem splitroot_tells (w : World) (mean : ExcName → Option Value) (mg mb : Str → Option Value) (x : Str) (t : Tok) (hx : x.length ≤ 1048576) :
    Tell w mean mg mb 122 3 24 [.str x t] (fun _ => True) (SplitEnd x) := by
  k_with_none
  k_with "call builtin:issubclass" => (k_here; (with_reducible show wpAny _ _ (call (Value.builtin "issubclass") [Value.type "str", Value.ref _]) _ _ _); k_dflt (refine' Mine.issub_tuple (by exact News.get (by k_asm) (by k_mem)) ?_; k_whole); intro tk')
  k_with "call ref" => (k_here; (with_reducible show wpAny _ _ (call (Value.ref 94) [Value.str _ _]) _ _ _); k_dflt (k_call_by "use" (Mine.fspath_tells _ _ _ _ _ _)); (case kp => trivial); intro v' h' tk' F' N' st' r'; subst r'; clear st'; (try dsimp only); (try k_fold); (try k_sweep))
  k_with "call ref" => (k_here; (with_reducible show wpAny _ _ (call (Value.ref 108) [Value.str _ _]) _ _ _); k_dflt (k_call_by "use" (Mine.getsep_tells _ _ _ _ _ _)); (case kp => trivial); intro v' h' tk' F' N' st' r'; (try dsimp only at r'); obtain ⟨t', r'⟩ := r'; subst r'; clear st'; (try dsimp only); (try k_fold); (try k_sweep))
  k_with "call ref" => (k_here; (with_reducible show wpAny _ _ (call (Value.ref 122) [Value.str _ _]) _ _ _); k_dflt (k_call_by "new" (Mine.splitroot_tells _ _ _ _ _ _ (by first | assumption | lia))); (case kp => trivial); intro v' h' tk' F' N' nw' r'; (try dsimp only at r'); obtain ⟨a', t1', t2', t3', r', r2', r3'⟩ := r'; subst r'; (replace N' := nw' _ _ r2' r3'); clear nw' r2' r3'; (try dsimp only); (try k_fold); (try k_sweep))
  k_with "storeName" => (k_here; k_dflt (refine' Mine.store_put (by k_asm) (by k_asm) ?_ (by rfl) (by rfl); k_whole; intro h' F' N'; (try k_sweep)))
  unfold Tell
  k_fill
  intro dp un gd cn cs a ccd cl outer A₀ base h₀ L m s Q E B F X T hk hp hdp hun hret
  have N : News h₀ L s.heap [] := News.nil
  refine wpAny_call ?_
  k_dflt (refine' Mine.enter0 ?k1 ?k2 ?k3 ?k5 ?kA ?kF ?kK ?k6 ?k7 ?k8 ?k9 ?kB ?_ ?c2 ?c3 ?c4 ?c5; (case kA => exact rfl); (case kF => exact rfl); (case kK => assumption); (case k1 => k_asm); (case k2 => k_asm); (case k3 => k_asm); (case k5 => k_asm); (case k6 => k_is); (case k7 => k_is); (case k8 => ktr_room); (case k9 => first | exact BindsTo.of_eq rfl | exact binds_K (by k_in) rfl (by k_is) rfl rfl rfl); (case c5 => decide); (case kB => exact locs rfl); (case c2 => exact rfl); (case c3 => exact rfl); (case c4 => exact rfl); k_whole; intro L' h' F' N' B' X' T'; (try dsimp only); (try k_lift B'); (try k_fold))
  replace F' : Fr _ _ _ (Mine.put (Str.ofString "p") (.str x t) fun _ => none) := Mine.fr_puts [(Str.ofString "p", .str x t)] F'
  k_steps
  all_goals first
    | exact hret _ _ _ (Fr.keep (by assumption)) (split_end1 (by assumption) (by assumption))
    | exact hret _ _ _ (Fr.keep (by assumption)) (split_end2 (by assumption) (by assumption) (by assumption))
    | exact hret _ _ _ (Fr.keep (by assumption)) (split_end3 (by assumption) (by assumption) (by assumption) (by assumption))
    | exact hret _ _ _ (Fr.keep (by assumption)) (split_end4 (by assumption) (by assumption) (by assumption) (by assumption))
end Mine

namespace Mine
/-- what join hands back for two texts -/
def joinS (x y : Str) : Str :=
  if Txt.startswith y (Str.ofString "/") = true then y
  else if (x.length : Int) = 0 then y
  else if Txt.endswith x (Str.ofString "/") = true then x ++ y
  else x ++ (Str.ofString "/" ++ y)
abbrev JoinEnd (x y : Str) (_ _ : Heap) (v : Value) : Prop := ∃ t, v = .str (joinS x y) t
section
variable {x y : Str} {h h' : Heap} {t : Tok}
theorem join_end1 (c : Txt.startswith y (Str.ofString "/") = true) : JoinEnd x y h h' (.str y t) := ⟨t, by unfold joinS; rw [if_pos c]⟩
theorem join_end2 (c : Txt.startswith y (Str.ofString "/") = false) (c2 : (x.length : Int) = 0) : JoinEnd x y h h' (.str y t) := ⟨t, by unfold joinS; rw [if_neg (by rw [c]; decide), if_pos c2]⟩
theorem join_end3 (c : Txt.startswith y (Str.ofString "/") = false) (c2 : (x.length : Int) ≠ 0) (c3 : Txt.endswith x (Str.ofString "/") = true) : JoinEnd x y h h' (.str (x ++ y) t) :=
  ⟨t, by unfold joinS; rw [if_neg (by rw [c]; decide), if_neg c2, if_pos c3]⟩
theorem join_end4 (c : Txt.startswith y (Str.ofString "/") = false) (c2 : (x.length : Int) ≠ 0) (c3 : Txt.endswith x (Str.ofString "/") = false) : JoinEnd x y h h' (.str (x ++ (Str.ofString "/" ++ y)) t) :=
  ⟨t, by unfold joinS; rw [if_neg (by rw [c]; decide), if_neg c2, if_neg (by rw [c3]; decide)]⟩
end
set_option maxHeartbeats 4000000 in
theorem join_tells (w : World) (mean : ExcName → Option Value) (mg mb : Str → Option Value) (x y : Str) (t u : Tok) (hx : x.length ≤ 1048576) (hy : y.length ≤ 1048576) :
    Tell w mean mg mb 115 3 24 [.str x t, .str y u] (fun _ => True) (JoinEnd x y) := by
  k_with_none
  k_with "call builtin:issubclass" => (k_here; (with_reducible show wpAny _ _ (call (Value.builtin "issubclass") [Value.type "str", Value.ref _]) _ _ _); k_dflt (refine' Mine.issub_tuple (by exact News.get (by k_asm) (by k_mem)) ?_; k_whole); intro tk')
  k_with "call ref" => (k_here; (with_reducible show wpAny _ _ (call (Value.ref 94) [Value.str _ _]) _ _ _); k_dflt (k_call_by "use" (Mine.fspath_tells _ _ _ _ _ _)); (case kp => trivial); intro v' h' tk' F' N' st' r'; subst r'; clear st'; (try dsimp only); (try k_fold); (try k_sweep))
  k_with "call ref" => (k_here; (with_reducible show wpAny _ _ (call (Value.ref 108) [Value.str _ _]) _ _ _); k_dflt (k_call_by "use" (Mine.getsep_tells _ _ _ _ _ _)); (case kp => trivial); intro v' h' tk' F' N' st' r'; (try dsimp only at r'); obtain ⟨t', r'⟩ := r'; subst r'; clear st'; (try dsimp only); (try k_fold); (try k_sweep))
  k_with "call ref" => (k_here; (with_reducible show wpAny _ _ (call (Value.ref 122) [Value.str _ _]) _ _ _); k_dflt (k_call_by "new" (Mine.splitroot_tells _ _ _ _ _ _ (by first | assumption | lia))); (case kp => trivial); intro v' h' tk' F' N' nw' r'; (try dsimp only at r'); obtain ⟨a', t1', t2', t3', r', r2', r3'⟩ := r'; subst r'; (replace N' := nw' _ _ r2' r3'); clear nw' r2' r3'; (try dsimp only); (try k_fold); (try k_sweep))
  k_with "storeName" => (k_here; k_dflt (refine' Mine.store_put (by k_asm) (by k_asm) ?_ (by rfl) (by rfl); k_whole; intro h' F' N'; (try k_sweep)))
  unfold Tell
  k_fill
  intro dp un gd cn cs a ccd cl outer A₀ base h₀ L m s Q E B F X T hk hp hdp hun hret
  have N : News h₀ L s.heap [] := News.nil
  refine wpAny_call ?_
  k_dflt (refine' Mine.enterRest ?k1 ?k2 ?k3 ?k5 ?kA ?kF ?kK ?k6 ?k7 ?k8 ?kV ?kP ?kG ?kB ?_ ?c2 ?c3 ?c4 ?c5; (case kA => exact rfl); (case kF => exact rfl); (case kK => assumption); (case k1 => k_asm); (case k2 => k_asm); (case k3 => k_asm); (case k5 => k_asm); (case k6 => k_is); (case k7 => k_is); (case k8 => ktr_room); (case kV => kl_lit); (case kP => exact rfl); (case kG => exact fun _ => rfl); (case kB => exact fun _ => locs rfl); (case c5 => decide); (case c2 => exact rfl); (case c3 => exact rfl); (case c4 => exact rfl); k_whole; intro D' L' h' F' N' B' X' T'; (try dsimp only); (try k_lift B'); (try k_fold))
  k_steps
  all_goals first
    | exact hret _ _ _ (Fr.keep (by assumption)) (join_end1 (by assumption))
    | exact hret _ _ _ (Fr.keep (by assumption)) (join_end2 (by assumption) (by assumption))
    | exact hret _ _ _ (Fr.keep (by assumption)) (join_end3 (by assumption) (by assumption) (by assumption))
    | exact hret _ _ _ (Fr.keep (by assumption)) (join_end4 (by assumption) (by assumption) (by assumption))
end Mine

namespace Mine
/-- a name of the frame, laid open -/
theorem fr_one {h₀ h : Heap} {L : Addr} {m : Str → Option Value} {k : Str} {v : Value} (F : Fr h₀ L h m) (hs : m k = some v) : Fr h₀ L h (fun z => if z = k then some v else m z) := by
  have e : (fun z => if z = k then some v else m z) = m := by
    funext z
    by_cases hz : z = k
    · rw [if_pos hz, hz, hs]
    · rw [if_neg hz]
  rw [e]; exact F
/-- names of a frame, written out over m₀ -/
def offs (ps : List (Str × Value)) (m₀ : Str → Option Value) : Str → Option Value := match ps with
  | [] => m₀
  | p :: r => fun y => if y = p.1 then some p.2 else offs r m₀ y
theorem offs_eq {m₁ m₀ : Str → Option Value} {z : Str} : ∀ {ps : List (Str × Value)}, (∀ p ∈ ps, m₁ p.1 = some p.2) → ((∀ p ∈ ps, z ≠ p.1) → m₁ z = m₀ z) → offs ps m₀ z = m₁ z
  | [], _, h2 => (h2 fun _ hp => nomatch hp).symm
  | p :: r, h1, h2 => by
    unfold offs
    by_cases hz : z = p.1
    · rw [if_pos hz, hz, h1 p (.head _)]
    · rw [if_neg hz]
      exact offs_eq (fun q hq => h1 q (.tail _ hq)) fun h => h2 fun q hq => by
        rcases List.mem_cons.mp hq with rfl | hq
        · exact hz
        · exact h q hq
theorem fr_given {h₀ h : Heap} {L : Addr} {m : Str → Option Value} (ps : List (Str × Value)) (F : Fr h₀ L h m) (h1 : ∀ p ∈ ps, m p.1 = some p.2) : Fr h₀ L h (offs ps m) := by
  have e : offs ps m = m := funext fun z => offs_eq h1 fun _ => rfl
  rw [e]; exact F
theorem all2 {P : α → Prop} {a b : α} (h1 : P a) (h2 : P b) : ∀ p ∈ [a, b], P p := List.forall_mem_cons.mpr ⟨h1, List.forall_mem_cons.mpr ⟨h2, fun _ h => nomatch h⟩⟩
theorem all1 {P : α → Prop} {a : α} (h1 : P a) : ∀ p ∈ [a], P p := List.forall_mem_cons.mpr ⟨h1, fun _ h => nomatch h⟩
theorem all3 {P : α → Prop} {a b c : α} (h1 : P a) (h2 : P b) (h3 : P c) : ∀ p ∈ [a, b, c], P p := List.forall_mem_cons.mpr ⟨h1, all2 h2 h3⟩
theorem all4 {P : α → Prop} {a b c d : α} (h1 : P a) (h2 : P b) (h3 : P c) (h4 : P d) : ∀ p ∈ [a, b, c, d], P p := List.forall_mem_cons.mpr ⟨h1, all3 h2 h3 h4⟩
theorem fr_offs {h₀ h : Heap} {L : Addr} {m₁ m₀ : Str → Option Value} {x : Str} {v : Value} (ps : List (Str × Value)) (F : Fr h₀ L h (fun y => if y = x then some v else m₁ y)) (h1 : ∀ p ∈ ps, m₁ p.1 = some p.2) (ho : ∀ z, z ≠ x → (∀ p ∈ ps, z ≠ p.1) → m₁ z = m₀ z) :
    Fr h₀ L h (fun y => if y = x then some v else offs ps m₀ y) := by
  have e : (fun y => if y = x then some v else offs ps m₀ y) = fun y => if y = x then some v else m₁ y := by
    funext y
    by_cases hy : y = x
    · rw [if_pos hy, if_pos hy]
    · rw [if_neg hy, if_neg hy]; exact offs_eq h1 fun h => ho y hy h
  rw [e]; exact F
theorem fr_outs {h₀ h : Heap} {L : Addr} {m₁ m₀ : Str → Option Value} {x : Str} (ps : List (Str × Value)) (F : Fr h₀ L h m₁) (h1 : ∀ p ∈ ps, m₁ p.1 = some p.2) (ho : ∀ z, z ≠ x → (∀ p ∈ ps, z ≠ p.1) → m₁ z = m₀ z) :
    Fr h₀ L h (fun y => if y = x then m₁ x else offs ps m₀ y) := by
  have e : (fun y => if y = x then m₁ x else offs ps m₀ y) = m₁ := by
    funext y
    by_cases hy : y = x
    · rw [if_pos hy, hy]
    · rw [if_neg hy]; exact offs_eq h1 fun h => ho y hy h
  rw [e]; exact F
section
variable {prog : Program} {w : World} {A : Around} {E : Value → Shared → Prop} {s : Shared} {env : Env} {h₀ : Heap} {x : Str} {body : List Stmt} {Q : Flow → Shared → Prop}

/-- the end of a turn: the frame and the ledger stand, the iterator as it was -/
def TurnEnd (h₀ : Heap) (L : Addr) (J : (Str → Option Value) → List (Addr × Obj) → Prop) (I : Addr) (oI : Obj) (s₁ : Shared) (Q : Flow → Shared → Prop) (f : Flow) (s₂ : Shared) : Prop :=
  match f with
  | .ret v => Q (.ret v) s₂
  | .brk => Q .next s₂
  | _ => ∃ h' tk m' nx, s₂ = { s₁ with heap := h', toks := tk } ∧ Fr h₀ L h' m' ∧ News h₀ L h' ((I, oI) :: nx) ∧ (∀ p ∈ nx, p.1 ≠ I) ∧ J m' nx

theorem turn_end {L : Addr} {J : (Str → Option Value) → List (Addr × Obj) → Prop} {I : Addr} {oI : Obj} {s₁ : Shared} {h' : Heap} {tk : Nat} {m' : Str → Option Value} (nx : List (Addr × Obj)) (F : Fr h₀ L h' m') (N : News h₀ L h' ((I, oI) :: nx)) (ha : ∀ p ∈ nx, p.1 ≠ I) (hJ : J m' nx) :
    ∃ h'' tk' m'' nx', ({ s₁ with heap := h', toks := tk } : Shared) = { s₁ with heap := h'', toks := tk' } ∧ Fr h₀ L h'' m'' ∧ News h₀ L h'' ((I, oI) :: nx') ∧ (∀ p ∈ nx', p.1 ≠ I) ∧ J m'' nx' := ⟨h', tk, m', nx, rfl, F, N, ha, hJ⟩

theorem loop_any {I : Addr} {fp : List Addr} {n : Nat} {P : Nat → Value → Prop} {St : Nat → Heap → Prop} {m₀ : Str → Option Value} {nx₀ : List (Addr × Obj)} (J : Nat → (Str → Option Value) → List (Addr × Obj) → Prop)
    (W : Walks prog w A I fp [I] n P St) (hLf : env.locals ∉ fp) (hI0 : h₀.get? I = none) (hIo : ∀ i h, St i h → ∃ o, h.get? I = some o)
    (hfp : ∀ b ∈ fp, b = I ∨ (∃ o, h₀.get? b = some o) ∨ (∃ o, ∀ i m nx, J i m nx → (b, o) ∈ nx))
    (hst : St 0 s.heap) (F : Fr h₀ env.locals s.heap m₀) (N : News h₀ env.locals s.heap nx₀) (hnI : ∀ p ∈ nx₀, p.1 ≠ I) (hj : J 0 m₀ nx₀)
    (turn : ∀ i v m₁ nx h tk oI, i < n → P i v → J i m₁ nx → (∀ p ∈ nx, p.1 ≠ I) → Fr h₀ env.locals h (fun y => if y = x then some v else m₁ y) → News h₀ env.locals h ((I, oI) :: nx) →
      wpAny (model prog w) A (execs body env) (TurnEnd h₀ env.locals (J (i + 1)) I oI { s with heap := h, toks := tk } Q) E { s with heap := h, toks := tk })
    (done : ∀ m₁ nx h tk, J n m₁ nx → Fr h₀ env.locals h m₁ → News h₀ env.locals h nx → Q .next { s with heap := h, toks := tk }) :
    LoopAtV prog w A h₀ env x body Q E (.ref I) s := by
  refine ⟨I, fp, [I], n, P, St, m₀, nx₀, J, rfl, W, hLf, fun b hb => by rw [List.mem_singleton.mp hb]; exact hI0, fun p hp q => hnI p hp (List.mem_singleton.mp q), hst, F, N, hj, ?_, ?_⟩
  · rintro i v m₁ nx s₁ own ⟨h, tk, rfl⟩ hi hP hJ hnw hin hget hmem hst' F₁ N₁
    obtain ⟨oI, hoI⟩ := hIo _ _ hst'
    have hIf : I ∈ fp := W.sub I (List.mem_singleton.mpr rfl)
    have hIown : (I, oI) ∈ own := hmem I hIf hI0 oI hoI
    have hne : ∀ p ∈ nx, p.1 ≠ I := fun p hp q => hnw p hp (List.mem_singleton.mpr q)
    have N₂ : News h₀ env.locals h ((I, oI) :: nx) := fun p hp => by
      rcases List.mem_cons.mp hp with rfl | hp
      · exact N₁ _ (List.mem_append_left _ hIown)
      · exact N₁ _ (List.mem_append_right _ hp)
    refine wpAny_mono (turn i v m₁ nx h tk oI hi hP hJ hne F₁ N₂) (fun f s₂ p => ?_) fun _ _ e => e
    have fin : (∃ h' tk' m' nx', s₂ = { ({ s with heap := h, toks := tk } : Shared) with heap := h', toks := tk' } ∧ Fr h₀ env.locals h' m' ∧ News h₀ env.locals h' ((I, oI) :: nx') ∧ (∀ p ∈ nx', p.1 ≠ I) ∧ J (i + 1) m' nx') →
        LoopStepU h₀ env.locals [I] own (J (i + 1)) { s with heap := h, toks := tk } .next s₂ := by
      rintro ⟨h', tk', m', nx', e, F', N', ha, hJ'⟩
      refine ⟨rfl, h', tk', m', nx', e, F', fun p hp => ?_, fun p hp q => ha p hp (List.mem_singleton.mp q), hJ'⟩
      rcases List.mem_append.mp hp with hp | hp
      · rcases hfp p.1 (hin p hp) with q | ⟨o, q⟩ | ⟨o, q⟩
        · have e1 : p = (I, oI) := by
            have := hget p hp
            rw [q] at this
            exact Prod.ext q (Option.some.inj (this.symm.trans hoI))
          rw [e1]
          exact N' _ (.head _)
        · have := (N₁ p (List.mem_append_left _ hp)).2.2
          rw [q] at this; cases this
        · have e1 : p = (p.1, o) := by
            have h1 := (N₁ _ (List.mem_append_right _ (q _ _ _ hJ))).1
            have h2 := hget p hp
            exact Prod.ext rfl (Option.some.inj (h2.symm.trans h1))
          rw [e1]
          exact N' _ (.tail _ (q _ _ _ hJ'))
      · exact N' p (.tail _ hp)
    cases f with
    | ret v => exact .ret p
    | brk => exact .brk p
    | next => exact .next (fin p)
    | cont => exact .cont (fin p)
  · rintro h' tk m' nx' F' N' _ hJ
    exact done m' nx' h' tk hJ F' N'

/-- a for over a list that stands on the ledger (J says so) or in the base -/
theorem loop_list {l : Addr} {vs : List Value} {m₀ : Str → Option Value} {nx₀ : List (Addr × Obj)} (J : Nat → (Str → Option Value) → List (Addr × Obj) → Prop)
    (hh : A.handled = none) (hl : s.heap.IsList l vs.toArray) (hfp : (∃ o, h₀.get? l = some o) ∨ (∃ o, ∀ i m nx, J i m nx → (l, o) ∈ nx))
    (F : Fr h₀ env.locals s.heap m₀) (N : News h₀ env.locals s.heap nx₀) (hj : J 0 m₀ nx₀)
    (turn : ∀ i v m₁ nx h tk I oI, vs[i]? = some v → J i m₁ nx → (∀ p ∈ nx, p.1 ≠ I) → Fr h₀ env.locals h (fun y => if y = x then some v else m₁ y) → News h₀ env.locals h ((I, oI) :: nx) →
      wpAny (model prog w) A (execs body env) (TurnEnd h₀ env.locals (J (i + 1)) I oI { s with heap := h, toks := tk } Q) E { s with heap := h, toks := tk })
    (done : ∀ m₁ nx h tk, J vs.length m₁ nx → Fr h₀ env.locals h m₁ → News h₀ env.locals h nx → Q .next { s with heap := h, toks := tk }) :
    wpAny (model prog w) A (pyIter (.ref l)) (fun it s₂ => LoopAtV prog w A h₀ env x body Q E it s₂) E s := by
  obtain ⟨ol, hol, hcl, nl, hdl⟩ := id hl
  have hlt := Heap.lt_size hol
  have hne : l ≠ s.heap.objs.size := Nat.ne_of_lt hlt
  refine wpAny_pyIter_list hl ?_
  have W := Walks.list (prog := prog) (w := w) hh s.heap.objs.size l hne vs.toArray
  have hlen : vs.toArray.size = vs.length := by simp
  rw [hlen] at W
  refine loop_any J W ?_ (next_is_new F) (fun i h st => st.1.imp fun _ q => q.1) ?_ ⟨⟨_, Heap.get?_push_size _ rfl, rfl, rfl⟩, hl.at fun o e => Heap.get?_push_of_some _ e⟩ (F.push _) (fun p hp => ⟨Heap.get?_push_of_some _ (N p hp).1, (N p hp).2⟩) (fun p hp => Nat.ne_of_lt (Heap.lt_size (N p hp).1)) hj
    (fun i v m₁ nx h tk oI _ hP hJ hn F₁ N₁ => turn i v m₁ nx h tk _ oI (by simpa using hP) hJ hn F₁ N₁) done
  · intro hm
    rcases List.mem_cons.mp hm with e | hm
    · exact absurd F.ns.lt (e ▸ Nat.lt_irrefl _)
    · have e := List.mem_singleton.mp hm
      rcases hfp with ⟨o, q⟩ | ⟨o, q⟩
      · exact absurd (Nat.lt_of_lt_of_le (Heap.lt_size q) F.above) (by rw [e]; exact Nat.lt_irrefl _)
      · exact (N _ (q _ _ _ hj)).2.1 e.symm
  · intro b hb
    rcases List.mem_cons.mp hb with e | hb
    · exact .inl e
    · rw [List.mem_singleton.mp hb]; exact .inr hfp

theorem loop_led {l : Addr} {vs : List Value} {nn : Nat} {m₀ : Str → Option Value} {nx₀ : List (Addr × Obj)} (J : Nat → (Str → Option Value) → List (Addr × Obj) → Prop)
    (hh : A.handled = none) (hl : (l, W.listOf vs.toArray nn) ∈ nx₀) (hm : ∀ i m nx, J i m nx → (l, W.listOf vs.toArray nn) ∈ nx)
    (F : Fr h₀ env.locals s.heap m₀) (N : News h₀ env.locals s.heap nx₀) (hj : J 0 m₀ nx₀)
    (turn : ∀ i v m₁ nx h tk I oI, vs[i]? = some v → J i m₁ nx → (∀ p ∈ nx, p.1 ≠ I) → Fr h₀ env.locals h (fun y => if y = x then some v else m₁ y) → News h₀ env.locals h ((I, oI) :: nx) →
      wpAny (model prog w) A (execs body env) (TurnEnd h₀ env.locals (J (i + 1)) I oI { s with heap := h, toks := tk } Q) E { s with heap := h, toks := tk })
    (done : ∀ m₁ nx h tk, J vs.length m₁ nx → Fr h₀ env.locals h m₁ → News h₀ env.locals h nx → Q .next { s with heap := h, toks := tk }) :
    wpAny (model prog w) A (pyIter (.ref l)) (fun it s₂ => LoopAtV prog w A h₀ env x body Q E it s₂) E s :=
  loop_list J hh ⟨_, N.get hl, rfl, nn, rfl⟩ (.inr ⟨_, hm⟩) F N hj turn done
/-- a for over a text's signs -/
theorem loop_text {y : Str} {t : Tok} {m₀ : Str → Option Value} {nx₀ : List (Addr × Obj)} (J : Nat → (Str → Option Value) → List (Addr × Obj) → Prop)
    (hh : A.handled = none) (F : Fr h₀ env.locals s.heap m₀) (N : News h₀ env.locals s.heap nx₀) (hj : J 0 m₀ nx₀)
    (turn : ∀ i c u m₁ nx h tk I oI, y.cps[i]? = some c → J i m₁ nx → (∀ p ∈ nx, p.1 ≠ I) → Fr h₀ env.locals h (fun z => if z = x then some (.str ⟨#[c]⟩ u) else m₁ z) → News h₀ env.locals h ((I, oI) :: nx) →
      wpAny (model prog w) A (execs body env) (TurnEnd h₀ env.locals (J (i + 1)) I oI { s with heap := h, toks := tk } Q) E { s with heap := h, toks := tk })
    (done : ∀ m₁ nx h tk, J y.cps.size m₁ nx → Fr h₀ env.locals h m₁ → News h₀ env.locals h nx → Q .next { s with heap := h, toks := tk }) :
    wpAny (model prog w) A (pyIter (.str y t)) (fun it s₂ => LoopAtV prog w A h₀ env x body Q E it s₂) E s := by
  have hLf : env.locals ∉ [s.heap.objs.size] := fun hm => absurd F.ns.lt ((List.mem_singleton.mp hm) ▸ Nat.lt_irrefl _)
  have N' : ∀ o, News h₀ env.locals (s.heap.push o) nx₀ := fun o p hp => ⟨Heap.get?_push_of_some _ (N p hp).1, (N p hp).2⟩
  have hn : ∀ p ∈ nx₀, p.1 ≠ s.heap.objs.size := fun p hp => Nat.ne_of_lt (Heap.lt_size (N p hp).1)
  cases ha : y.cps.all (· < 128)
  · refine wpAny_pyIter_wide ha ?_
    exact loop_any (s := { s with heap := s.heap.push _ }) J (Walks.strWide hh _ y t) hLf (next_is_new F) (fun i h st => st.imp fun _ q => q.1) (fun b hb => .inl (List.mem_singleton.mp hb)) ⟨_, Heap.get?_push_size _ rfl, rfl, rfl⟩ (F.push _) (N' _) hn hj
      (fun i v m₁ nx h tk oI _ hP hJ hn F₁ N₁ => by obtain ⟨c, u, hc, rfl⟩ := hP; exact turn i c u m₁ nx h tk _ oI hc hJ hn F₁ N₁) done
  · refine wpAny_pyIter_ascii ha ?_
    exact loop_any (s := { s with heap := s.heap.push _ }) J (Walks.strAscii hh _ y t) hLf (next_is_new F) (fun i h st => st.imp fun _ q => q.1) (fun b hb => .inl (List.mem_singleton.mp hb)) ⟨_, Heap.get?_push_size _ rfl, rfl, rfl⟩ (F.push _) (N' _) hn hj
      (fun i v m₁ nx h tk oI _ hP hJ hn F₁ N₁ => by obtain ⟨c, u, hc, rfl⟩ := hP; exact turn i c u m₁ nx h tk _ oI hc hJ hn F₁ N₁) done
end
end Mine

namespace Mine
section
variable {prog : Program} {w : World} {A : Around} {E : Value → Shared → Prop} {s : Shared}
open Builtin.Dict_items in
theorem owns_items : ownsTuple "dict_itemiterator" = true := by decide
/-- the next pair of a dict's items: the entry's own key and value -/
theorem raw_next {it d : Addr} {i ep : Nat} {es : Array DictEntry} {od : Obj} {en : DictEntry} {ok ov : Value} {Q : Option Value → Shared → Prop} (hit : IsItemIter s.heap it d i es.size ep ok ov)
    (hod : s.heap.get? d = some od) (hdd : od.data = .dict es ep) (he : es[i]? = some en)
    (hQ : ∀ h', IsItemIterOut h' it d (i + 1) es.size ep en.key en.val s.heap.objs.size → h'.get? s.heap.objs.size = some { cls := .type "tuple", data := .seq #[en.key, en.val] } →
      (∀ b o, b ≠ it → s.heap.get? b = some o → h'.get? b = some o) → Q (some (.ref s.heap.objs.size)) { s with heap := h' }) :
    wpAny (model prog w) A (pyNext (.ref it)) Q E s := by
  have hT : s.TypeIs (.ref it) "dict_itemiterator" := ⟨_, hit, rfl⟩
  have hi : i < es.size := (Array.getElem?_eq_some_iff.mp he).1
  have hil := Heap.lt_size hit
  unfold pyNext
  refine wpAny_bind (wpAny_attempt (wpAny_callSpecial?_slot (name := Str.ofString "__next__") hT PySem.F.slot_dict_itemiterator_next
    (wpAny_call_entry PySem.F.slot_dict_itemiterator_next hT PySem.F.entry_dict_itemiterator_next ?_ (PySem.F.args_dict_itemiterator_next_1 _))))
  -- slot0
  refine wpAny_bind (wpAny_pure ?_)
  -- place
  refine wpAny_bind (wpAny_bind (wpAny_bind ?_))
  refine wpAny_typeNameOfWhole_itemiter hT (wpAny_pure ?_)
  rw [if_pos owns_items]
  refine wpAny_bind (wpAny_fieldsOf hit rfl ?_)
  show wpAny _ _ (if (Value.ref d == Value.none) = true then _ else _) _ _ s
  refine wpAny_ite_split (fun c => absurd c (by simp)) fun _ => ?_
  refine wpAny_bind (wpAny_pure (wpAny_bind (wpAny_dictEntries hod hdd ?_)))
  refine wpAny_ite_split (fun c => absurd c (by simp)) fun _ => ?_
  refine wpAny_bind (wpAny_pure (wpAny_bind (wpAny_dictEpoch hod hdd ?_)))
  refine wpAny_ite_split (fun c => absurd c (by simp)) fun _ => wpAny_pure ?_
  simp only [show ¬ ((i : Int) < 0) from by lia, if_false, Int.toNat_natCast, he]
  -- the place moves on
  refine wpAny_bind (wpAny_bind (wpAny_typeNameOfWhole_itemiter hT (wpAny_pure (wpAny_bind (wpAny_isOneOf_itemiter hT ?_)))))
  show wpAny _ _ (setField (Value.ref it) 3 (rawInt ((i : Int) + 1)) >>= _) _ _ s
  refine wpAny_bind (wpAny_setField_rec hit (by simp) fun h₁ e₁ s₁ => ?_)
  replace e₁ : IsItemIter h₁ it d (i + 1) es.size ep ok ov := by
    have q : ((i + 1 : Nat) : Int) = (i : Int) + 1 := by lia
    unfold IsItemIter; rw [q]; simpa [rawInt] using e₁
  have T₁ : Shared.TypeIs { s with heap := h₁ } (.ref it) "dict_itemiterator" := ⟨_, e₁, rfl⟩
  refine wpAny_bind (wpAny_holding (wpAny_bind (wpAny_isOneOf_itemiter T₁ (wpAny_bind (wpAny_isOneOf_itemiter T₁ ?_)))))
  show wpAny _ _ (newTuple [en.key, en.val] >>= _) _ _ _
  refine wpAny_bind (wpAny_newTuple ?_)
  -- the pair is made: from here on the iterator alone is written
  have z₁ : h₁.objs.size = s.heap.objs.size := s₁.1
  have e₂ : IsItemIter (h₁.push { cls := .type "tuple", data := .seq #[en.key, en.val] }) it d (i + 1) es.size ep ok ov := Heap.get?_push_of_some _ e₁
  have t₂ : (h₁.push { cls := .type "tuple", data := .seq #[en.key, en.val] }).get? s.heap.objs.size = some { cls := .type "tuple", data := .seq #[en.key, en.val] } := z₁ ▸ Heap.get?_push_size _ rfl
  have k₂ : ∀ b o, b ≠ it → s.heap.get? b = some o → (h₁.push { cls := .type "tuple", data := .seq #[en.key, en.val] }).get? b = some o := fun b o hb e => Heap.get?_push_of_some _ (s₁.extBut b o hb e)
  rw [show ({ s with heap := h₁ } : Shared).heap.objs.size = s.heap.objs.size from z₁]
  generalize h₁.push { cls := .type "tuple", data := .seq #[en.key, en.val] } = h₂ at e₂ t₂ k₂
  show wpAny _ _ (Builtin.Dict_items.ownedTupleIsFree (.ref it) >>= _) _ _ { s with heap := h₂ }
  unfold Builtin.Dict_items.ownedTupleIsFree
  refine wpAny_bind (wpAny_bind (wpAny_field (x := .none) e₂ rfl rfl (wpAny_pure ?_)))
  simp only [if_true]
  refine wpAny_bind (wpAny_field (x := ok) e₂ rfl rfl (wpAny_bind (wpAny_field (x := ov) e₂ rfl rfl ?_)))
  refine wpAny_bind (wpAny_setField_rec e₂ (by simp) fun h₃ e₃ s₃ => wpAny_bind (wpAny_setField_rec e₃ (by simp) fun h₄ e₄ s₄ => wpAny_bind (wpAny_setField_rec e₄ (by simp) fun h₅ e₅ s₅ =>
    wpAny_bind (wpAny_setField_rec e₅ (by simp) fun h₆ e₆ s₆ => wpAny_bind (wpAny_letGo (wpAny_pure (wpAny_pure ⟨_, rfl, wpAny_pure (hQ h₆ ?_ ?_ ?_)⟩)))))))
  · simpa [IsItemIterOut, rawInt] using e₆
  · exact s₆.extBut _ _ (Nat.ne_of_gt hil) (s₅.extBut _ _ (Nat.ne_of_gt hil) (s₄.extBut _ _ (Nat.ne_of_gt hil) (s₃.extBut _ _ (Nat.ne_of_gt hil) t₂)))
  · exact fun b o hb e => s₆.extBut b o hb (s₅.extBut b o hb (s₄.extBut b o hb (s₃.extBut b o hb (k₂ b o hb e))))
end
end Mine

namespace Mine
section
variable {prog : Program} {w : World} {A : Around} {E : Value → Shared → Prop} {s : Shared} {env : Env} {h₀ : Heap} {body : List Stmt} {Q : Flow → Shared → Prop}

/-- the walk over a dict's items, told by the entries themselves -/
theorem items_turns {elts : List Expr} {kk : Nat} {pos : Pos} (hh : A.handled = none) (I d : Addr) (hne : d ≠ I) {K : Type} [DecidableEq K] {knd : KeyKind prog w K} {kvs : List (K × Value)} {es : Array DictEntry} {ep : Nat} {od : Obj}
    (ka : KdkAt knd od kvs ep) (hdd : od.data = .dict es ep) :
    KTurns prog w A (.Tuple elts kk pos) I [I, d] [I] es.size
      (fun i v h => ∃ T en, v = .ref T ∧ es[i]? = some en ∧ h.IsTuple T #[en.key, en.val])
      (fun i v h => ∃ T en ok ov, v = .ref T ∧ es[i]? = some en ∧ h.IsTuple T #[en.key, en.val] ∧ IsItemIterOut h I d (i + 1) es.size ep ok ov T ∧ h.get? d = some od ∧ T ≠ I)
      (fun i h => (∃ ok ov, IsItemIter h I d i es.size ep ok ov) ∧ h.get? d = some od) where
  sub := fun b hb => by rw [List.mem_singleton.mp hb]; exact .head _
  frame := fun i h h' st hk => by
    obtain ⟨⟨ok, ov, e⟩, hm⟩ := st
    exact ⟨⟨ok, ov, hk I (.head _) _ e⟩, hk d (.tail _ (.head _)) _ hm⟩
  item := fun i s Q E hi st hQ => by
    obtain ⟨⟨ok, ov, e⟩, hm⟩ := st
    have hx : es[i]? = some es[i] := by simp [hi]
    exact raw_next e hm hdd hx fun h' ho hT hk => hQ (.ref s.heap.objs.size) h' s.toks ⟨_, _, _, _, rfl, hx, ⟨_, hT, rfl, _, rfl⟩, ho, hk _ _ hne hm, Nat.ne_of_gt (Heap.lt_size e)⟩ fun b o hb q => hk b o (fun z => hb (List.mem_singleton.mpr z)) q
  go := fun i v s Q E hm hQ => by
    obtain ⟨T, en, ok, ov, rfl, hx, hT, ho, hd, hTI⟩ := hm
    exact wpAny_letOwnedTupleGo_items ho fun h' e hs => hQ h' ⟨T, en, rfl, hx, hT.at fun o q => hs.extBut T o hTI q⟩ ⟨⟨ok, ov, e⟩, hs.extBut _ _ hne hd⟩ fun b o hb q => hs.extBut b o (fun z => hb (List.mem_singleton.mpr z)) q
  done := fun s Q E st hQ => by
    obtain ⟨⟨ok, ov, e⟩, hm⟩ := st
    obtain ⟨es', hx', hd', hk', hp', hn'⟩ := id ka
    have he : es' = es := by rw [hdd] at hd'; injection hd' with q _; exact q.symm
    subst he
    have hl : es'.size = kvs.length := by rw [← hp'.length]; simp
    rw [hl] at e
    exact wpAny_pyNext_items_end hh e (ka.dictAt hm) (by simp) fun h' hx => hQ h' s.toks fun b o hb q => hx b o (fun z => hb (List.mem_singleton.mpr z)) q

/-- for key, value in d.items(): each turn has the entry's own key and value -/
theorem loop_items {elts : List Expr} {kk : Nat} {pos : Pos} {d vw : Addr} {m₀ : Str → Option Value} {nx₀ : List (Addr × Obj)} {K : Type} [DecidableEq K] {knd : KeyKind prog w K} {kvs : List (K × Value)} {es : Array DictEntry} {ep : Nat} {od : Obj}
    (J : Nat → (Str → Option Value) → List (Addr × Obj) → Prop) (hh : A.handled = none)
    (hvw : ∃ ov, s.heap.get? vw = some ov ∧ ov.cls = .type "dict_items" ∧ ov.data = .fields #[.ref d])
    (hd : h₀.get? d = some od) (ka : KdkAt knd od kvs ep) (hdd : od.data = .dict es ep)
    (F : Fr h₀ env.locals s.heap m₀) (N : News h₀ env.locals s.heap nx₀) (hj : J 0 m₀ nx₀)
    (turn : ∀ i en m₁ nx h tk I oI T, es[i]? = some en → J i m₁ nx → (∀ p ∈ nx, p.1 ≠ I) → IsTup h T #[en.key, en.val] → Fr h₀ env.locals h m₁ → News h₀ env.locals h ((I, oI) :: nx) →
      wpAny (model prog w) A (assign (.Tuple elts kk pos) env (.ref T)) (fun _ s₂ => wpAny (model prog w) A (execs body env) (TurnEnd h₀ env.locals (J (i + 1)) I oI { s with heap := h, toks := tk } Q) E s₂) E { s with heap := h, toks := tk })
    (done : ∀ m₁ nx h tk, J es.size m₁ nx → Fr h₀ env.locals h m₁ → News h₀ env.locals h nx → Q .next { s with heap := h, toks := tk }) :
    wpAny (model prog w) A (pyIter (.ref vw)) (fun it s₂ => TurnsAt prog w A h₀ env (.Tuple elts kk pos) body Q E it s₂) E s := by
  have hds : s.heap.get? d = some od := F.keep _ _ hd
  have hne : d ≠ s.heap.objs.size := Nat.ne_of_lt (Heap.lt_size hds)
  have hat := ka.dictAt hds
  obtain ⟨es', hx', hd', hk', hp', hn'⟩ := id ka
  have he : es' = es := by rw [hdd] at hd'; injection hd' with q _; exact q.symm
  subst he
  have hl : es'.size = kvs.length := by rw [← hp'.length]; simp
  refine wpAny_pyIter_items hvw hat ?_
  rw [← hl]
  refine ⟨s.heap.objs.size, _, _, es'.size, _, _, _, m₀, nx₀, J, rfl, items_turns hh s.heap.objs.size d hne ka hdd, ?_, ?_, ?_, ?_, F.push _, (fun p hp => ⟨Heap.get?_push_of_some _ (N p hp).1, (N p hp).2⟩), hj, ?_, ?_⟩
  · intro hm
    rcases List.mem_cons.mp hm with e | hm
    · exact absurd F.ns.lt (e ▸ Nat.lt_irrefl _)
    · have e := List.mem_singleton.mp hm
      exact absurd (Nat.lt_of_lt_of_le (Heap.lt_size hd) F.above) (by rw [e]; exact Nat.lt_irrefl _)
  · intro b hb
    rw [List.mem_singleton.mp hb]; exact next_is_new F
  · exact fun p hp q => absurd (Heap.lt_size (N p hp).1) ((List.mem_singleton.mp q) ▸ Nat.lt_irrefl _)
  · exact ⟨⟨.none, .none, Heap.get?_push_size _ rfl⟩, Heap.get?_push_of_some _ hds⟩
  · rintro i v m₁ nx h tk own hi ⟨T, en, rfl, hx, hT⟩ hJ hnw hin hget hmem hst F₁ N₁
    obtain ⟨⟨ok, ov, e⟩, hdh⟩ := hst
    obtain ⟨oI, hoI⟩ : ∃ o, h.get? s.heap.objs.size = some o := ⟨_, e⟩
    have hIown := hmem _ (.head _) (next_is_new F) _ hoI
    have hne' : ∀ p ∈ nx, p.1 ≠ s.heap.objs.size := fun p hp q => hnw p hp (List.mem_singleton.mpr q)
    have N₂ : News h₀ env.locals h ((s.heap.objs.size, oI) :: nx) := fun p hp => by
      rcases List.mem_cons.mp hp with rfl | hp
      · exact N₁ _ (List.mem_append_left _ hIown)
      · exact N₁ _ (List.mem_append_right _ hp)
    refine wpAny_mono (turn i en m₁ nx h tk _ _ T hx hJ hne' hT F₁ N₂) (fun _ s₂ p => wpAny_mono p (fun f s₃ p => ?_) fun _ _ q => q) fun _ _ q => q
    have fin : (∃ h' tk' m' nx', s₃ = { ({ s with heap := h, toks := tk } : Shared) with heap := h', toks := tk' } ∧ Fr h₀ env.locals h' m' ∧ News h₀ env.locals h' ((s.heap.objs.size, oI) :: nx') ∧ (∀ p ∈ nx', p.1 ≠ s.heap.objs.size) ∧ J (i + 1) m' nx') →
        LoopStepU h₀ env.locals [s.heap.objs.size] own (J (i + 1)) { s with heap := h, toks := tk } .next s₃ := by
      rintro ⟨h', tk', m', nx', q, F', N', ha, hJ'⟩
      refine ⟨rfl, h', tk', m', nx', q, F', fun p hp => ?_, fun p hp z => ha p hp (List.mem_singleton.mp z), hJ'⟩
      rcases List.mem_append.mp hp with hp | hp
      · rcases List.mem_cons.mp (hin p hp) with z | z
        · have e1 : p = (s.heap.objs.size, oI) := Prod.ext z (Option.some.inj ((hget p hp).symm.trans (z ▸ hoI)))
          rw [e1]
          exact N' _ (.head _)
        · have z' := List.mem_singleton.mp z
          have := (N₁ p (List.mem_append_left _ hp)).2.2
          rw [z', hd] at this; cases this
      · exact N' p (.tail _ hp)
    cases f with
    | ret v => exact .ret p
    | brk => exact .brk p
    | next => exact .next (fin p)
    | cont => exact .cont (fin p)
  · rintro h' tk m' nx' F' N' _ hJ
    exact done m' nx' h' tk hJ F' N'
end
end Mine

namespace Mine
/-- a run makes tokens, it takes none back -/
theorem runs_toks {M : Model} {Γ : PySem.Ctx} {p : Pos} {t : Sem Fin} {fs : List PySem.Frame} {s s' : Shared} {e : PySem.End} (r : Runs M Γ p t fs s e s') : s.toks ≤ s'.toks := by
  induction r with
  | done => exact Nat.le_refl _
  | raise => exact Nat.le_refl _
  | yield => exact Nat.le_refl _
  | fresh _ ih => exact Nat.le_of_succ_le ih
  | call _ _ a b => exact Nat.le_trans a b
  | resumeFresh _ _ _ _ a b => exact Nat.le_trans a b
  | resumeSuspended _ _ _ _ a b => exact Nat.le_trans a b
  | segRet _ _ a b => exact Nat.le_trans a b
  | segGen _ _ a b => exact Nat.le_trans a b
  | segSuspGen _ _ _ _ a b => exact Nat.le_trans a b
  | _ => assumption
theorem wakes_toks {M : Model} {Γ : PySem.Ctx} {p : Pos} {g : Nat} {r : Resume} {s s' : Shared} {res : GenResult} (h : Wakes M Γ p g r s res s') : s.toks ≤ s'.toks := by
  unfold Wakes at h
  split at h
  · exact h.elim
  · split at h
    · obtain ⟨e₁, s₁, h₁, _, _, rfl⟩ := h; have q := runs_toks h₁; exact q
    · obtain ⟨_, rfl⟩ := h; exact Nat.le_refl _
    · obtain ⟨_, rfl⟩ := h; exact Nat.le_refl _
  · obtain ⟨e₁, s₁, h₁, _, _, rfl⟩ := h; have q := runs_toks h₁; exact q
  · obtain ⟨_, rfl⟩ := h; exact Nat.le_refl _
  · obtain ⟨_, rfl⟩ := h; exact Nat.le_refl _
theorem wp_toks {α : Type} {M : Model} {Γ : PySem.Ctx} {n : Nat} {Q : α → Pos → Shared → Prop} {E : Value → Pos → Shared → Prop} (t : Sem α) : ∀ (p : Pos) (s : Shared), n ≤ s.toks →
    Sem.wp M Γ t (fun a p s' => n ≤ s'.toks → Q a p s') (fun e p s' => n ≤ s'.toks → E e p s') p s → Sem.wp M Γ t Q E p s := by
  induction t with
  | pure a => exact fun p s h q => q h
  | raise e => exact fun p s h q => q h
  | unsupported | finish | yield | fork | await | register => exact fun _ _ _ q => q
  | rule tag k ih => exact fun p s h q => ih _ p s h q
  | «at» p' k ih => exact fun p s h q => ih _ p' s h q
  | load a part k ih => exact fun p s h q => q.elim fun o q => ⟨o, q.1, ih _ p s h q.2⟩
  | loadIfAlive a k ih => exact fun p s h q => ih _ p s h q
  | point l k ih => exact fun p s h q => ih _ p s h q
  | update a part f k ih => exact fun p s h q => ⟨q.1, ih () p { s with heap := s.heap.update a f } h q.2⟩
  | alloc o k ih => exact fun p s h q => ih _ p { s with heap := s.heap.push o } h q
  | fresh k ih => exact fun p s h q => ih _ p { s with toks := s.toks + 1 } (Nat.le_succ_of_le h) q
  | ask k ih => exact fun p s h q => ih _ p s h q
  | choose src k' k ih => exact fun p s h q => ⟨q.1, ih _ p { s with drawn := s.drawn.bump src } h q.2⟩
  | os q' l k ih => exact fun p s h q => ih _ p { s with os := (Os.step s.os q').1 } h q
  | call c hd g l k ih => exact fun p s h q => q.elim fun r q => q.elim fun s' q => ⟨r, s', q.1, ih r p s' (Nat.le_trans h (runs_toks q.1)) q.2⟩
  | handled own k ih => exact fun p s h q => ih _ p s h q
  | genState g k ih => exact fun p s h q => q.elim fun st q => ⟨st, q.1, ih _ p s h q.2⟩
  | newGen c k ih => exact fun p s h q => ih _ p { s with gens := s.gens.push (.fresh c) } h q
  | resume g r l k ih => exact fun p s h q => q.elim fun res q => q.elim fun s' q => ⟨res, s', q.1, ih res p s' (Nat.le_trans h (wakes_toks q.1)) q.2⟩
  | stack k ih => exact fun p s h q => ih _ p s h q
  | thread k ih => exact fun p s h q => ih _ p s h q
/-- behind any tree there are as many tokens as ahead of it, or more -/
theorem any_toks {α : Type} {M : Model} {A : Around} {t : Sem α} {Q : α → Shared → Prop} {E : Value → Shared → Prop} {s : Shared}
    (h : wpAny M A t (fun v s' => s.toks ≤ s'.toks → Q v s') (fun e s' => s.toks ≤ s'.toks → E e s') s) : wpAny M A t Q E s :=
  fun Γ p hΓ => wp_toks t p s (Nat.le_refl _) (h Γ p hΓ)
theorem any_toksQ {α : Type} {M : Model} {A : Around} {t : Sem α} {Q : α → Shared → Prop} {E : Value → Shared → Prop} {s : Shared}
    (h : wpAny M A t (fun v s' => s.toks ≤ s'.toks → Q v s') E s) : wpAny M A t Q E s := any_toks (wpAny_mono h (fun _ _ q => q) fun _ _ q _ => q)
end Mine

namespace Mine
/-- every sign c made into the signs zs -/
def subst (c : Nat) (zs : List Nat) (l : List Nat) : List Nat := l.flatMap fun k => if k = c then zs else [k]
theorem subst_free (c : Nat) (zs : List Nat) : ∀ l : List Nat, c ∉ l → subst c zs l = l
  | [], _ => rfl
  | k :: r, h => by
    have h1 : ¬ k = c := fun e => h (e ▸ List.mem_cons_self ..)
    have ih := subst_free c zs r fun m => h (List.mem_cons_of_mem _ m)
    unfold subst at ih ⊢
    rw [List.flatMap_cons, if_neg h1, ih]; rfl
theorem subst_append (c : Nat) (zs a b : List Nat) : subst c zs (a ++ b) = subst c zs a ++ subst c zs b := by
  unfold subst; rw [List.flatMap_append]
theorem subst_one (c : Nat) (zs : List Nat) : subst c zs [c] = zs := by simp [subst]
theorem subst_join (c : Nat) (z : Str) : ∀ parts : List Str, (∀ p ∈ parts, c ∉ p.cps.toList) → subst c z.cps.toList (Str.join ⟨#[c]⟩ parts).cps.toList = (Str.join z parts).cps.toList
  | [], _ => rfl
  | [p], h => subst_free c _ _ (h p (List.mem_singleton.mpr rfl))
  | p :: q :: r, h => by
    have ih := subst_join c z (q :: r) fun a ha => h a (List.mem_cons_of_mem _ ha)
    show subst c z.cps.toList (p ++ ⟨#[c]⟩ ++ Str.join ⟨#[c]⟩ (q :: r)).cps.toList = (p ++ z ++ Str.join z (q :: r)).cps.toList
    rw [Str.cps_append, Str.cps_append, Str.cps_append, Str.cps_append, Array.toList_append, Array.toList_append, Array.toList_append, Array.toList_append, subst_append, subst_append, ih, subst_free c _ _ (h p (List.mem_cons_self ..))]
    show p.cps.toList ++ subst c z.cps.toList [c] ++ _ = _
    rw [subst_one]
theorem replace_subst (x z : Str) (c : Nat) : (Txt.replace x ⟨#[c]⟩ z).cps.toList = subst c z.cps.toList x.cps.toList := by
  rw [StrLaws.replace_one, ← subst_join c z _ (StrLaws.split_free x c), StrLaws.join_split]
theorem subst_length (c : Nat) (zs : List Nat) (b : Nat) (hz : zs.length ≤ b) (hb : 1 ≤ b) : ∀ l : List Nat, (subst c zs l).length ≤ b * l.length
  | [] => by simp [subst]
  | k :: r => by
    have ih := subst_length c zs b hz hb r
    unfold subst at ih ⊢
    rw [List.flatMap_cons, List.length_append, List.length_cons, Nat.mul_succ]
    have h1 : (if k = c then zs else [k]).length ≤ b := by
      split
      · exact hz
      · exact hb
    lia
theorem str_len (x : Str) : x.length = x.cps.toList.length := by
  show x.cps.size = _
  exact (Array.length_toList ..).symm
theorem replace_length (x z : Str) (c b : Nat) (hz : z.length ≤ b) (hb : 1 ≤ b) : (Txt.replace x ⟨#[c]⟩ z).length ≤ b * x.length := by
  rw [str_len, str_len, replace_subst]
  exact subst_length c _ b (by rw [← str_len]; exact hz) hb _
/-- one replacement after the other, as the table has them -/
def repAll (x : Str) (D : List (Str × Str)) : Str := D.foldl (fun s p => Txt.replace s p.1 p.2) x
/-- keys of one sign, texts of five at most, three at most -/
def SmallTab (D : List (Str × Str)) : Prop := D.length ≤ 3 ∧ ∀ p ∈ D, (∃ c, p.1 = ⟨#[c]⟩) ∧ p.2.length ≤ 5
theorem repAll_length : ∀ (D : List (Str × Str)) (x : Str), (∀ p ∈ D, (∃ c, p.1 = ⟨#[c]⟩) ∧ p.2.length ≤ 5) → (repAll x D).length ≤ 5 ^ D.length * x.length
  | [], x, _ => by simp [repAll]
  | p :: D, x, h => by
    obtain ⟨⟨c, hc⟩, h5⟩ := h p (.head _)
    have ih := repAll_length D (Txt.replace x p.1 p.2) fun q hq => h q (.tail _ hq)
    have h1 := replace_length x p.2 c 5 h5 (by decide)
    rw [← hc] at h1
    have h2 : 5 ^ D.length * (Txt.replace x p.1 p.2).length ≤ 5 ^ D.length * (5 * x.length) := Nat.mul_le_mul_left _ h1
    show (repAll (Txt.replace x p.1 p.2) D).length ≤ 5 ^ (D.length + 1) * x.length
    have e : 5 ^ (D.length + 1) * x.length = 5 ^ D.length * (5 * x.length) := by rw [Nat.pow_succ, Nat.mul_assoc]
    lia
/-- escape -/
def escS (x : Str) (D : List (Str × Str)) : Str := repAll (Txt.replace (Txt.replace (Txt.replace x (Str.ofString "&") (Str.ofString "&amp;")) (Str.ofString ">") (Str.ofString "&gt;")) (Str.ofString "<") (Str.ofString "&lt;")) D
theorem sign_amp : Str.ofString "&" = ⟨#[38]⟩ := by decide +kernel
theorem sign_gt : Str.ofString ">" = ⟨#[62]⟩ := by decide +kernel
theorem sign_lt : Str.ofString "<" = ⟨#[60]⟩ := by decide +kernel
theorem len_amp : (Str.ofString "&amp;").length = 5 := by decide +kernel
theorem len_gt : (Str.ofString "&gt;").length = 4 := by decide +kernel
theorem len_lt : (Str.ofString "&lt;").length = 4 := by decide +kernel
theorem rep_amp_len (x : Str) : (Txt.replace x (Str.ofString "&") (Str.ofString "&amp;")).length ≤ 5 * x.length := by
  rw [sign_amp]; exact replace_length x _ 38 5 (by rw [len_amp]; decide) (by decide)
theorem rep_gt_len (x : Str) : (Txt.replace x (Str.ofString ">") (Str.ofString "&gt;")).length ≤ 4 * x.length := by
  rw [sign_gt]; exact replace_length x _ 62 4 (by rw [len_gt]; decide) (by decide)
theorem rep_lt_len (x : Str) : (Txt.replace x (Str.ofString "<") (Str.ofString "&lt;")).length ≤ 4 * x.length := by
  rw [sign_lt]; exact replace_length x _ 60 4 (by rw [len_lt]; decide) (by decide)
end Mine

namespace Mine
/-- an entry of a table of texts: the key, its token, the text, its token -/
structure TE where
  x : Str
  t : Tok
  y : Str
  u : Tok
def TE.kv (q : TE) : Value × Value := (.str q.x q.t, .str q.y q.u)
def TE.Ok (q : TE) : Prop := q.t ≠ 0 ∧ q.u ≠ 0 ∧ q.t ≠ q.u
def putT (x : Str) (y : Str) (u : Tok) (q : TE) : TE := if q.x = x then ⟨q.x, q.t, y, u⟩ else q
def storeT (T : List TE) (x : Str) (t : Tok) (y : Str) (u : Tok) : List TE := if T.any (fun q => decide (q.x = x)) then T.map (putT x y u) else T ++ [⟨x, t, y, u⟩]
abbrev entKV (e : DictEntry) : Value × Value := (e.key, e.val)

/-- the dict's entries, with their tokens -/
def TabRaw (prog : Program) (w : World) (od : Obj) (T : List TE) : Prop :=
  ∃ es ep, od.ExactDict ∧ od.data = .dict es ep ∧ PySem.KeysOf (PySem.strKind prog w) es ∧ es.toList.map entKV = T.map TE.kv ∧ (T.map (·.x)).Nodup

section
variable {prog : Program} {w : World} {A : Around} {E : Value → Shared → Prop} {s : Shared}

theorem pairs_raw : ∀ (es : List DictEntry) (T : List TE), es.map entKV = T.map TE.kv → Pairs (PySem.strKind prog w) es (T.map fun q => (q.x, Value.str q.y q.u))
  | [], [], _ => .nil
  | [], _ :: _, h => by cases h
  | _ :: _, [], h => by cases h
  | e :: es, q :: T, h => by
    simp only [List.map_cons, List.cons.injEq] at h
    obtain ⟨h1, h2⟩ := h
    have hk : e.key = .str q.x q.t := congrArg Prod.fst h1
    have hv : e.val = .str q.y q.u := congrArg Prod.snd h1
    exact .cons (by rw [hk]; exact strKind_is _ _ _ _) hv (pairs_raw es T h2)
theorem keys_kvs (T : List TE) : (T.map fun q => (q.x, Value.str q.y q.u)).map (·.1) = T.map (·.x) := by rw [List.map_map]; rfl
theorem TabRaw.kdk {od : Obj} {T : List TE} (h : TabRaw prog w od T) : ∃ ep, KdkAt (PySem.strKind prog w) od (T.map fun q => (q.x, Value.str q.y q.u)) ep :=
  h.elim fun es h => h.elim fun ep h => ⟨ep, es, h.1, h.2.1, h.2.2.1, pairs_raw _ _ h.2.2.2.1, by rw [keys_kvs]; exact h.2.2.2.2⟩
theorem TabRaw.isDict {od : Obj} {T : List TE} (h : TabRaw prog w od T) : od.IsDictOf (PySem.strKind prog w) (T.map fun q => (q.x, Value.str q.y q.u)) :=
  h.elim fun es h => h.elim fun ep h => ⟨es, ep, h.1, h.2.1, h.2.2.1, pairs_raw _ _ h.2.2.2.1, by rw [keys_kvs]; exact h.2.2.2.2⟩
theorem flat_raw : ∀ T : List TE, PyProof.V.FlatPairs PyData.str (T.map fun q => (q.x, Value.str q.y q.u)) (T.map fun q => (PyData.str q.x, PyData.str q.y))
  | [] => .nil
  | q :: T => .cons (.str _ _) (flat_raw T)
theorem TabRaw.tab {od : Obj} {T : List TE} {h : Heap} {d : Addr} (r : TabRaw prog w od T) (ho : h.get? d = some od) (lo : (d == sysModules) = false) : StrTab prog w h d (T.map fun q => (PyData.str q.x, PyData.str q.y)) :=
  TabAt.ofObj lo ho r.isDict (flat_raw T)
theorem TabRaw.new : TabRaw prog w { cls := .type "dict", data := .dict #[] } [] := ⟨#[], 0, ⟨rfl, rfl, rfl⟩, rfl, fun e he => by simp at he, rfl, List.nodup_nil⟩

theorem put_list {x : Str} {y : Str} {u : Tok} : ∀ (es : List DictEntry) (T : List TE) (i : Nat), es.map entKV = T.map TE.kv → (T.map (·.x)).Nodup → (es.findIdx? fun e => (PySem.strKind prog w).is x e.key) = some i →
    (es.modify i fun e => { e with val := .str y u }).map entKV = (T.map (putT x y u)).map TE.kv ∧ T.any (fun q => decide (q.x = x)) = true
  | [], _, _, _, _, h => by simp at h
  | _ :: _, [], _, h, _, _ => by cases h
  | e :: es, q :: T, i, h, hn, hf => by
    simp only [List.map_cons, List.cons.injEq] at h
    obtain ⟨h1, h2⟩ := h
    have hk : e.key = .str q.x q.t := congrArg Prod.fst h1
    have hv : e.val = .str q.y q.u := congrArg Prod.snd h1
    rw [List.map_cons, List.nodup_cons] at hn
    rw [List.findIdx?_cons, hk] at hf
    by_cases hx : q.x = x
    · have e1 : (PySem.strKind prog w).is x (Value.str q.x q.t) = true := by rw [hx]; exact strKind_is _ _ _ _
      rw [e1, if_pos rfl] at hf
      cases hf
      have hrest : T.map (putT x y u) = T := by
        rw [List.map_congr_left (g := id) fun p hp => ?_, List.map_id]
        have : p.x ≠ x := fun z => hn.1 (List.mem_map.mpr ⟨p, hp, z.trans hx.symm⟩)
        simp [putT, this]
      refine ⟨?_, by simp [hx]⟩
      simp only [List.modify_zero_cons, List.map_cons, hrest, h2]
      congr 1
      simp [putT, hx, TE.kv, hk, hx]
    · have e1 : (PySem.strKind prog w).is x (Value.str q.x q.t) = false := by
        cases z : (PySem.strKind prog w).is x (Value.str q.x q.t) with
        | false => rfl
        | true =>
          obtain ⟨t', z'⟩ := Value.isStrOf_shape (show Value.isStrOf x (Value.str q.x q.t) = true from z)
          injection z' with z' _
          exact absurd z' hx
      rw [e1, if_neg Bool.false_ne_true] at hf
      cases hj : es.findIdx? fun e => (PySem.strKind prog w).is x e.key with
      | none => rw [hj] at hf; cases hf
      | some j =>
        rw [hj] at hf
        cases hf
        obtain ⟨a, b⟩ := put_list es T j h2 hn.2 hj
        refine ⟨?_, by simp [b]⟩
        simp only [List.modify_succ_cons, List.map_cons, a]
        congr 1
        simp [putT, hx, TE.kv, hk, hv]
theorem no_list {x : Str} : ∀ (es : List DictEntry) (T : List TE), es.map entKV = T.map TE.kv → (es.findIdx? fun e => (PySem.strKind prog w).is x e.key) = none → T.any (fun q => decide (q.x = x)) = false
  | [], [], _, _ => rfl
  | [], _ :: _, h, _ => by cases h
  | _ :: _, [], _, _ => rfl
  | e :: es, q :: T, h, hf => by
    simp only [List.map_cons, List.cons.injEq] at h
    obtain ⟨h1, h2⟩ := h
    have hk : e.key = .str q.x q.t := congrArg Prod.fst h1
    rw [List.findIdx?_eq_none_iff] at hf
    have h3 := no_list es T h2 (List.findIdx?_eq_none_iff.mpr fun p hp => hf p (.tail _ hp))
    have h4 := hf e (.head _)
    have hx : q.x ≠ x := fun z => by rw [hk, z, strKind_is] at h4; cases h4
    simp [h3, hx]

theorem storeT_nodup {T : List TE} (h : (T.map (·.x)).Nodup) (x : Str) (t : Tok) (y : Str) (u : Tok) : ((storeT T x t y u).map (·.x)).Nodup := by
  unfold storeT
  split
  · have e : (T.map (putT x y u)).map (·.x) = T.map (·.x) := by
      rw [List.map_map]
      exact List.map_congr_left fun q _ => by show (putT x y u q).x = q.x; unfold putT; split <;> rfl
    rw [e]; exact h
  · rename_i hn
    rw [List.map_append, List.nodup_append]
    refine ⟨h, by simp, fun a ha b hb z => hn ?_⟩
    obtain ⟨q, hq, rfl⟩ := List.mem_map.mp ha
    have hb' : b = x := by simpa using hb
    exact List.any_eq_true.mpr ⟨q, hq, decide_eq_true (z.trans hb')⟩

/-- d[x] = y, told with the tokens -/
theorem raw_set {d : Addr} {od : Obj} {T : List TE} {x y : Str} {t u : Tok} {Q : Unit → Shared → Prop} (hd : s.heap.get? d = some od) (r : TabRaw prog w od T)
    (hQ : ∀ h' od', h'.get? d = some od' → TabRaw prog w od' (storeT T x t y u) → Heap.SameBut d s.heap h' → Q () { s with heap := h', toks := s.toks + 1 }) (hsz : T.length ≤ 100) :
    wpAny (model prog w) A (setItem (.ref d) (.str x t) (.str y u)) Q E s := by
  have hkey : (PySem.strKind prog w).is x (.str x t) = true := strKind_is _ _ _ _
  have hty : s.TypeIs (.ref d) "dict" := (Heap.dictOf_iff.mpr ⟨od, hd, r.isDict⟩).typeIs
  obtain ⟨es, ep, hx, hdd, hk, hT, hn⟩ := r
  have hes : es.size ≤ sizeLine := by
    have e1 := congrArg List.length hT
    simp only [List.length_map, Array.length_toList] at e1
    rw [sizeLine_eq]; lia
  unfold setItem
  try with_reducible refine wpAny_holding ?_
  refine wpAny_bind (wpAny_sequenceKey hty (by decide) (wpAny_bind (wpAny_callSpecial?_slot (name := Str.ofString "__setitem__") hty slot_dict_setitem
    (wpAny_call_entry slot_dict_setitem hty entry_dict_setitem ?_ (args_dict_setitem _ _ _)))))
  show wpAny _ _ (Builtin.Dict.notOrdered "__setitem__" ⟨[.ref d, .str x t, .str y u], []⟩ >>= _) _ _ s
  refine wpAny_bind (wpAny_notOrdered_dict hty ?_)
  show wpAny _ _ (dictSet d (.str x t) (.str y u) >>= _) _ _ s
  refine wpAny_bind ?_
  unfold dictSet
  try with_reducible refine wpAny_holding ?_
  refine wpAny_bind ((PySem.strKind prog w).pyHash hkey ?_)
  unfold dictSetHashed
  try with_reducible refine wpAny_holding ?_
  refine wpAny_bind (wpAny_dictFind_of (s := { s with toks := s.toks + 1 }) hkey hd hdd hk ?_)
  have fin : ∀ h' od', h'.get? d = some od' → TabRaw prog w od' (storeT T x t y u) → Heap.SameBut d s.heap h' → wpAny (model prog w) A.in1 (ret Value.none) (fun f s' => ∃ v, f = .done (.ret v) ∧ wpAny (model prog w) A (pure ()) Q E s') E { s with heap := h', toks := s.toks + 1 } :=
    fun h' od' a b c => wpAny_pure ⟨.none, rfl, wpAny_pure (hQ h' od' a b c)⟩
  cases hi : es.findIdx? fun e => (PySem.strKind prog w).is x e.key with
  | some i =>
    have hl : (es.toList.findIdx? fun e => (PySem.strKind prog w).is x e.key) = some i := by rw [← hi]; obtain ⟨l⟩ := es; simp
    obtain ⟨p1, p2⟩ := put_list (y := y) (u := u) _ _ _ hT hn hl
    refine wpAny_bind (wpAny_rule (wpAny_bind (wpAny_updateDict (s := { s with toks := s.toks + 1 }) hd hdd (wpAny_point (fin _ _ (Heap.get?_update_self _ hd (Obj.isFreed_of_dict (Obj.data_mapDict hdd _)))
      ⟨_, ep, hx.mapDict _, Obj.data_mapDict hdd _, hk.modify _ _, ?_, storeT_nodup hn x t y u⟩ (Heap.SameBut.update ..))))))
    rw [storeT, if_pos p2, ← p1]
    obtain ⟨l⟩ := es
    simp
  | none =>
    have hl : (es.toList.findIdx? fun e => (PySem.strKind prog w).is x e.key) = none := by rw [← hi]; obtain ⟨l⟩ := es; simp
    have p2 := no_list _ _ hT hl
    refine wpAny_bind (wpAny_rule (wpAny_updateDictKeys (hz := hes) (s := { s with toks := s.toks + 1 }) hd hdd (fin _ _ (Heap.get?_update_self _ hd (Obj.isFreed_of_dict (Obj.data_mapDictKeys hdd _)))
      ⟨_, ep + 1, hx.mapDictKeys _, Obj.data_mapDictKeys hdd _, hk.push hkey _, ?_, storeT_nodup hn x t y u⟩ (Heap.SameBut.update ..))))
    rw [storeT, if_neg (by rw [p2]; exact Bool.false_ne_true)]
    obtain ⟨l⟩ := es
    have hT' : List.map entKV l = List.map TE.kv T := hT
    simp [hT', entKV, TE.kv]
end
end Mine

namespace Mine
theorem booked {h : Heap} {c : Value} {dd : Option Addr} {n : Nat} {sl : Array (Option Value)} (hl : h.NoLimit) (ho : h.get? cStatics = some ⟨c, dd, .dict #[] n, sl⟩) : NoneBooked h := by
  obtain ⟨mc, hn, _⟩ := hl
  refine ⟨mc, hn, ?_⟩
  obtain ⟨o, es, ep, ho', hd, hk, hf⟩ := hn
  rw [ho] at ho'
  cases ho'
  cases hd
  rw [← hf]
  rfl
theorem booked_keep {h h' : Heap} (b : NoneBooked h) (k : ∀ b o, h.get? b = some o → h'.get? b = some o) : NoneBooked h' := b.elim fun mc h => ⟨mc, h.1.keeps k, h.2⟩
theorem booked_K {w : World} {h : Heap} {mean : ExcName → Option Value} {mg mb : Str → Option Value} (X : (hd.heap_39 w.params).In h) (T : Top hd.view_39 loose0 mean mg mb h) : PySem.Challenge.rw_ij0048_01.row.prog = PySem.Challenge.rw_ij0048_01.row.prog → NoneBooked h := by
  revert X
  k_fill
  intro X _
  exact booked T.nolimit (X _ _ (by k_is))
end Mine
namespace Mine
def TE.pair (q : TE) : Str × Str := (q.x, q.y)
theorem repAll_take {x : Str} {T : List TE} {i : Nat} {q : TE} (h : T[i]? = some q) : repAll x ((T.take (i + 1)).map TE.pair) = Txt.replace (repAll x ((T.take i).map TE.pair)) q.x q.y := by
  unfold repAll
  rw [List.take_add_one, h]
  simp [TE.pair]
/-- the turns of the loop over the table: what s holds -/
def DrsJ (x : Str) (T : List TE) (m₀ : Str → Option Value) (i : Nat) (m : Str → Option Value) (nx : List (Addr × Obj)) : Prop :=
  nx = [] ∧ (∃ t, m (Str.ofString "s") = some (.str (repAll x ((T.take i).map TE.pair)) t)) ∧ ∀ z, z ≠ Str.ofString "s" → z ≠ Str.ofString "key" → z ≠ Str.ofString "value" → m z = m₀ z
section
variable {prog : Program} {w : World} {A : Around} {E : Value → Shared → Prop} {s : Shared}
/-- s.replace(key, value) where the three are texts and the tokens are good -/
theorem replace_small {x y z : Str} {t u v : Tok} {Q : Value → Shared → Prop} (hu : u ≠ 0) (hv : v ≠ 0) (huv : u ≠ v) (hx : x.length ≤ 1000000) (hz : z.length ≤ 14) (hnb : NoneBooked s.heap)
    (hq : ∀ t' k, s.toks ≤ k → Q (.str (Txt.replace x y z) t') { s with toks := k }) : wpAny (model prog w) A (call (.builtin "str.replace") [.str x t, .str y u, .str z v]) Q E s :=
  any_toksQ (SC.replaceW2 1000000 14 (by decide) hu hv huv hx hz hq hnb)
end
theorem raw_entry {es : Array DictEntry} {T : List TE} (h : es.toList.map entKV = T.map TE.kv) {i : Nat} {en : DictEntry} (he : es[i]? = some en) : ∃ q, T[i]? = some q ∧ en.key = .str q.x q.t ∧ en.val = .str q.y q.u := by
  have h1 : (es.toList.map entKV)[i]? = some (entKV en) := by rw [List.getElem?_map, Array.getElem?_toList, he]; rfl
  rw [h, List.getElem?_map] at h1
  cases hq : T[i]? with
  | none => rw [hq] at h1; cases h1
  | some q =>
    rw [hq] at h1
    have h2 : q.kv = entKV en := Option.some.inj h1
    exact ⟨q, rfl, (congrArg Prod.fst h2).symm, (congrArg Prod.snd h2).symm⟩
theorem raw_size {es : Array DictEntry} {T : List TE} (h : es.toList.map entKV = T.map TE.kv) : es.size = T.length := by
  have e1 := congrArg List.length h
  simpa using e1
theorem repAll_bound {x : Str} {T : List TE} (hT : ∀ q ∈ T, (∃ c, q.x = ⟨#[c]⟩) ∧ q.y.length ≤ 5) (hl : T.length ≤ 3) (hx : x.length ≤ 2000) (i : Nat) : (repAll x ((T.take i).map TE.pair)).length ≤ 1000000 := by
  have h1 := repAll_length ((T.take i).map TE.pair) x (by
    intro p hp
    obtain ⟨q, hq, rfl⟩ := List.mem_map.mp hp
    exact hT q (List.mem_of_mem_take hq))
  have h2 : ((T.take i).map TE.pair).length ≤ 3 := by rw [List.length_map, List.length_take]; lia
  have h3 : 5 ^ ((T.take i).map TE.pair).length ≤ 5 ^ 3 := Nat.pow_le_pow_right (by decide) h2
  have h4 : 5 ^ ((T.take i).map TE.pair).length * x.length ≤ 5 ^ 3 * 2000 := Nat.mul_le_mul h3 hx
  have h5 : (5 : Nat) ^ 3 * 2000 = 250000 := by decide
  lia
abbrev TabPre (w : World) (d : Addr) (T : List TE) (s : Shared) : Prop := 0 < s.toks ∧ (d == sysModules) = false ∧ ∃ od, s.heap.get? d = some od ∧ TabRaw PySem.Challenge.rw_ij0048_01.row.prog w od T
abbrev GoodT (T : List TE) : Prop := T.length ≤ 3 ∧ (∀ q ∈ T, (∃ c, q.x = ⟨#[c]⟩) ∧ q.y.length ≤ 5) ∧ ∀ q ∈ T, q.Ok

set_option maxHeartbeats 4000000 in
theorem drs_tells (w : World) (mean : ExcName → Option Value) (mg mb : Str → Option Value) (x : Str) (t : Tok) (d : Addr) (T : List TE) (hx : x.length ≤ 2000) (hT : GoodT T) :
    Tell w mean mg mb 143 2 16 [.str x t, .ref d] (TabPre w d T) (fun _ _ v => ∃ t', v = .str (repAll x (T.map TE.pair)) t') := by
  k_with_none
  k_with "call builtin:issubclass" => (k_here; (with_reducible show wpAny _ _ (call (Value.builtin "issubclass") [Value.type "str", Value.ref _]) _ _ _); k_dflt (refine' Mine.issub_tuple (by exact News.get (by k_asm) (by k_mem)) ?_; k_whole); intro tk')
  k_with "call ref" => (k_here; (with_reducible show wpAny _ _ (call (Value.ref 94) [Value.str _ _]) _ _ _); k_dflt (k_call_by "use" (Mine.fspath_tells _ _ _ _ _ _)); (case kp => trivial); intro v' h' tk' F' N' st' r'; subst r'; clear st'; (try dsimp only); (try k_fold); (try k_sweep))
  k_with "call ref" => (k_here; (with_reducible show wpAny _ _ (call (Value.ref 108) [Value.str _ _]) _ _ _); k_dflt (k_call_by "use" (Mine.getsep_tells _ _ _ _ _ _)); (case kp => trivial); intro v' h' tk' F' N' st' r'; (try dsimp only at r'); obtain ⟨t', r'⟩ := r'; subst r'; clear st'; (try dsimp only); (try k_fold); (try k_sweep))
  k_with "call ref" => (k_here; (with_reducible show wpAny _ _ (call (Value.ref 122) [Value.str _ _]) _ _ _); k_dflt (k_call_by "new" (Mine.splitroot_tells _ _ _ _ _ _ (by first | assumption | lia))); (case kp => trivial); intro v' h' tk' F' N' nw' r'; (try dsimp only at r'); obtain ⟨a', t1', t2', t3', r', r2', r3'⟩ := r'; subst r'; (replace N' := nw' _ _ r2' r3'); clear nw' r2' r3'; (try dsimp only); (try k_fold); (try k_sweep))
  k_with "storeName" => (k_here; k_dflt (refine' Mine.store_put (by k_asm) (by k_asm) ?_ (by rfl) (by rfl); k_whole; intro h' F' N'; (try k_sweep)))
  unfold Tell
  k_fill
  intro dp un gd cn cs a ccd cl outer A₀ base h₀ L m s Q E B F X Tp hk hp hdp hun hret
  have N : News h₀ L s.heap [] := News.nil
  obtain ⟨htk, lo, od, hd, raw⟩ := hp
  have TB := raw.tab hd lo
  have hbk : NoneBooked s.heap := booked_K (X.keeps F.keep) (Tp.keeps F.keep) rfl
  refine wpAny_call ?_
  k_dflt (refine' Mine.enter0 ?k1 ?k2 ?k3 ?k5 ?kA ?kF ?kK ?k6 ?k7 ?k8 ?k9 ?kB ?_ ?c2 ?c3 ?c4 ?c5; (case kA => exact rfl); (case kF => exact rfl); (case kK => assumption); (case k1 => k_asm); (case k2 => k_asm); (case k3 => k_asm); (case k5 => k_asm); (case k6 => k_is); (case k7 => k_is); (case k8 => ktr_room); (case k9 => first | exact BindsTo.of_eq rfl | exact binds_K (by k_in) rfl (by k_is) rfl rfl rfl); (case c5 => decide); (case kB => exact locs rfl); (case c2 => exact rfl); (case c3 => exact rfl); (case c4 => exact rfl); k_whole; intro L' h' F' N' B' X' T'; (try dsimp only); (try k_lift B'); (try k_fold))
  k_steps
  rename Fr _ _ _ _ => F1
  rename News _ _ _ [] => N1
  with_unfolding_all refine' For_turns F1 ?_
  refine MethodCall_ ?_
  with_unfolding_all refine ld F1 (by rfl) ?_
  with_unfolding_all refine getMethod_tab (knd := PySem.strKind _ _) (enc := PyData.str) PySem.F.slot_dict_items PySem.F.type_dict_items (TB.keep F1.keep) ?_
  refine callWith_method0 ?_
  with_unfolding_all refine call_items_tab (knd := PySem.strKind _ _) (enc := PyData.str) (TB.keep F1.keep) F1 N1 ?_
  intro h2 o2 hvw F2 N2
  obtain ⟨ep, ka⟩ := raw.kdk
  obtain ⟨es, ep', hx1, hx2, hx3, hx4, hx5⟩ := id raw
  have hep : ep' = ep := by obtain ⟨es2, y1, y2, _⟩ := id ka; rw [hx2] at y2; injection y2
  subst hep
  refine loop_items (knd := PySem.strKind _ _) (DrsJ x T _) rfl hvw hd ka hx2 F2 (News.nil) ⟨rfl, ⟨t, by simp only [List.take_zero, List.map_nil]; rfl⟩, fun _ _ _ _ => rfl⟩ ?_ ?_
  · rintro i en m₁ nx h tk I oI TT he ⟨rfl, ⟨ts, hs⟩, ho⟩ hnI hTT F3 N3
    obtain ⟨q, hq, hk1, hv1⟩ := raw_entry hx4 he
    obtain ⟨⟨c, hc⟩, hy5⟩ := hT.2.1 q (List.mem_of_getElem? hq)
    obtain ⟨g1, g2, g3⟩ := hT.2.2 q (List.mem_of_getElem? hq)
    have hb := repAll_bound hT.2.1 hT.1 hx i
    have hnb := booked_keep hbk F3.keep
    rw [hk1, hv1] at hTT
    replace F3 := fr_one F3 hs
    k_steps
    refine replace_small g1 g2 g3 hb (by lia) (booked_keep hbk (Fr.keep (by assumption))) ?_
    intro t' k' _
    k_steps
    exact turn_end [] (by assumption) (by assumption) (fun _ hp => nomatch hp) ⟨rfl, ⟨t', by rw [repAll_take hq]; rfl⟩, fun z z1 z2 z3 => by simp only [Mine.put, if_neg z1, if_neg z2, if_neg z3]; exact ho z z1 z2 z3⟩
  · rintro m₁ nx h tk ⟨rfl, ⟨ts, hs⟩, ho⟩ F3 N3
    replace F3 := fr_one F3 hs
    rw [raw_size hx4, List.take_length] at F3
    k_steps
    all_goals exact hret _ _ _ (Fr.keep (by assumption)) ⟨_, rfl⟩
end Mine

namespace Mine
section
set_option maxHeartbeats 4000000 in
theorem escape_tells (w : World) (mean : ExcName → Option Value) (mg mb : Str → Option Value) (x : Str) (t : Tok) (d : Addr) (T : List TE) (hx : x.length ≤ 20) (hT : GoodT T) :
    Tell w mean mg mb 152 4 32 [.str x t, .ref d] (TabPre w d T) (fun _ _ v => ∃ t', v = .str (escS x (T.map TE.pair)) t') := by
  k_with_none
  k_with "call builtin:issubclass" => (k_here; (with_reducible show wpAny _ _ (call (Value.builtin "issubclass") [Value.type "str", Value.ref _]) _ _ _); k_dflt (refine' Mine.issub_tuple (by exact News.get (by k_asm) (by k_mem)) ?_; k_whole); intro tk')
  k_with "call ref" => (k_here; (with_reducible show wpAny _ _ (call (Value.ref 94) [Value.str _ _]) _ _ _); k_dflt (k_call_by "use" (Mine.fspath_tells _ _ _ _ _ _)); (case kp => trivial); intro v' h' tk' F' N' st' r'; subst r'; clear st'; (try dsimp only); (try k_fold); (try k_sweep))
  k_with "call ref" => (k_here; (with_reducible show wpAny _ _ (call (Value.ref 108) [Value.str _ _]) _ _ _); k_dflt (k_call_by "use" (Mine.getsep_tells _ _ _ _ _ _)); (case kp => trivial); intro v' h' tk' F' N' st' r'; (try dsimp only at r'); obtain ⟨t', r'⟩ := r'; subst r'; clear st'; (try dsimp only); (try k_fold); (try k_sweep))
  k_with "call ref" => (k_here; (with_reducible show wpAny _ _ (call (Value.ref 122) [Value.str _ _]) _ _ _); k_dflt (k_call_by "new" (Mine.splitroot_tells _ _ _ _ _ _ (by first | assumption | lia))); (case kp => trivial); intro v' h' tk' F' N' nw' r'; (try dsimp only at r'); obtain ⟨a', t1', t2', t3', r', r2', r3'⟩ := r'; subst r'; (replace N' := nw' _ _ r2' r3'); clear nw' r2' r3'; (try dsimp only); (try k_fold); (try k_sweep))
  k_with "storeName" => (k_here; k_dflt (refine' Mine.store_put (by k_asm) (by k_asm) ?_ (by rfl) (by rfl); k_whole; intro h' F' N'; (try k_sweep)))
  k_with "execs nil" => ((with_reducible refine wpAny_execs_nil ?_); try dsimp only)
  k_with "call builtin:str.replace" => ((with_reducible show wpAny _ _ (call (Value.builtin "str.replace") [Value.str _ _, Value.str _ _, Value.str _ _]) _ _ _); k_dflt (refine' Mine.replace_small (by first | lia | ((show @Ne Nat _ _); lia)) (by first | lia | ((show @Ne Nat _ _); lia)) (by first | lia | ((show @Ne Nat _ _); lia)) (by lia) (by decide) (by exact Mine.booked_keep (by assumption) (Fr.keep (by assumption))) ?_); intro t' k' _)
  k_with "execs cons" => ((with_reducible refine wpAny_execs_cons ?_); try dsimp only)
  k_with "call ref" => (k_here; (with_reducible show wpAny _ _ (call (Value.ref 143) [Value.str _ _, Value.ref _]) _ _ _); k_dflt (k_call_by "use" (Mine.drs_tells _ _ _ _ _ _ _ _ (by lia) (by assumption))); (case kp => exact ⟨by (try dsimp only at *); lia, by assumption, _, Fr.keep (by assumption) _ _ (by assumption), by assumption⟩); intro v' h' tk' F' N' st' r'; (try dsimp only at r'); obtain ⟨t', r'⟩ := r'; subst r'; clear st'; (try dsimp only); (try k_fold); (try k_sweep))
  unfold Tell
  k_fill
  intro dp un gd cn cs a ccd cl outer A₀ base h₀ L m s Q E B F X Tp hk hp hdp hun hret
  have N : News h₀ L s.heap [] := News.nil
  have hp' := hp
  obtain ⟨htk, lo, od, hd, raw⟩ := hp
  have TB := raw.tab hd lo
  have hbk : NoneBooked s.heap := booked_K (X.keeps F.keep) (Tp.keeps F.keep) rfl
  refine wpAny_call ?_
  k_dflt (refine' Mine.enter0 ?k1 ?k2 ?k3 ?k5 ?kA ?kF ?kK ?k6 ?k7 ?k8 ?k9 ?kB ?_ ?c2 ?c3 ?c4 ?c5; (case kA => exact rfl); (case kF => exact rfl); (case kK => assumption); (case k1 => k_asm); (case k2 => k_asm); (case k3 => k_asm); (case k5 => k_asm); (case k6 => k_is); (case k7 => k_is); (case k8 => ktr_room); (case k9 => first | exact BindsTo.of_eq rfl | exact binds_K (by k_in) rfl (by k_is) rfl rfl rfl); (case c5 => decide); (case kB => exact locs rfl); (case c2 => exact rfl); (case c3 => exact rfl); (case c4 => exact rfl); k_whole; intro L' h' F' N' B' X' T'; (try dsimp only); (try k_lift B'); (try k_fold))
  replace F' : Fr _ _ _ (Mine.put (Str.ofString "entities") (.ref d) (Mine.put (Str.ofString "data") (.str x t) fun _ => none)) := Mine.fr_puts [(Str.ofString "entities", .ref d), (Str.ofString "data", .str x t)] F'
  have b1 := rep_amp_len x
  have b2 := rep_gt_len (Txt.replace x (Str.ofString "&") (Str.ofString "&amp;"))
  have b3 := rep_lt_len (Txt.replace (Txt.replace x (Str.ofString "&") (Str.ofString "&amp;")) (Str.ofString ">") (Str.ofString "&gt;"))
  k_steps
  all_goals first
    | exact hret _ _ _ (Fr.keep (by assumption)) ⟨_, rfl⟩
    | (have hT0 : T = [] := by
        cases T with
        | nil => rfl
        | cons q T => rename _ = true => hc; simp at hc
       subst hT0
       exact hret _ _ _ (Fr.keep (by assumption)) ⟨_, rfl⟩)
end
end Mine

namespace Mine
/-- a program's text: three signs at most, no «>» among them -/
def GoodProg (x : Str) : Prop := x.length ≤ 3 ∧ ∀ c ∈ x.cps.toList, c ≠ 62
def LpJ (m₀ : Str → Option Value) (k : Nat) (m : Str → Option Value) (nx : List (Addr × Obj)) : Prop :=
  nx = [] ∧ (∃ (j : Int) (x : Str) (t1 t2 : Tok), m (Str.ofString "number") = some (.int j t1) ∧ m (Str.ofString "signs") = some (.str x t2) ∧ 0 ≤ j ∧ k = j.toNat ∧
    ((x.length = 0 ∧ j < 512) ∨ (x.length = 1 ∧ j < 64) ∨ (x.length = 2 ∧ j < 8) ∨ (x.length = 3 ∧ j = 0)) ∧ ∀ c ∈ x.cps.toList, c ≠ 62) ∧
  ∀ z, z ≠ Str.ofString "number" → z ≠ Str.ofString "signs" → m z = m₀ z
theorem lp_sign {i : Int} (h0 : 0 ≤ i) (h1 : i < 8) : ∀ c ∈ (Txt.item (Str.ofString "b.uwa&</") i).cps.toList, c ≠ 62 := by
  have h : ∀ k : Fin 8, (Txt.item (Str.ofString "b.uwa&</") (k.val : Int)).cps.toList.all (fun c => decide (c ≠ 62)) = true := by decide +kernel
  have e : i = ((⟨i.toNat, by lia⟩ : Fin 8).val : Int) := by simp; lia
  rw [e]
  intro c hc
  exact of_decide_eq_true (List.all_eq_true.mp (h _) c hc)
section
set_option maxHeartbeats 4000000 in
theorem lprogram_tells (w : World) (mean : ExcName → Option Value) (mg mb : Str → Option Value) (n : Int) (t : Tok) (h0 : 0 ≤ n) (h1 : n < 512) :
    Tell w mean mg mb 159 3 24 [.int n t] (fun _ => True) (fun _ _ v => ∃ x t', v = .str x t' ∧ GoodProg x) := by
  k_with_none
  k_with "call builtin:issubclass" => (k_here; (with_reducible show wpAny _ _ (call (Value.builtin "issubclass") [Value.type "str", Value.ref _]) _ _ _); k_dflt (refine' Mine.issub_tuple (by exact News.get (by k_asm) (by k_mem)) ?_; k_whole); intro tk')
  k_with "call ref" => (k_here; (with_reducible show wpAny _ _ (call (Value.ref 94) [Value.str _ _]) _ _ _); k_dflt (k_call_by "use" (Mine.fspath_tells _ _ _ _ _ _)); (case kp => trivial); intro v' h' tk' F' N' st' r'; subst r'; clear st'; (try dsimp only); (try k_fold); (try k_sweep))
  k_with "call ref" => (k_here; (with_reducible show wpAny _ _ (call (Value.ref 108) [Value.str _ _]) _ _ _); k_dflt (k_call_by "use" (Mine.getsep_tells _ _ _ _ _ _)); (case kp => trivial); intro v' h' tk' F' N' st' r'; (try dsimp only at r'); obtain ⟨t', r'⟩ := r'; subst r'; clear st'; (try dsimp only); (try k_fold); (try k_sweep))
  k_with "call ref" => (k_here; (with_reducible show wpAny _ _ (call (Value.ref 122) [Value.str _ _]) _ _ _); k_dflt (k_call_by "new" (Mine.splitroot_tells _ _ _ _ _ _ (by first | assumption | lia))); (case kp => trivial); intro v' h' tk' F' N' nw' r'; (try dsimp only at r'); obtain ⟨a', t1', t2', t3', r', r2', r3'⟩ := r'; subst r'; (replace N' := nw' _ _ r2' r3'); clear nw' r2' r3'; (try dsimp only); (try k_fold); (try k_sweep))
  k_with "storeName" => (k_here; k_dflt (refine' Mine.store_put (by k_asm) (by k_asm) ?_ (by rfl) (by rfl); k_whole; intro h' F' N'; (try k_sweep)))
  k_with "exec While Compare cons nil" => refine Mine.halt ?_
  unfold Tell
  k_fill
  intro dp un gd cn cs a ccd cl outer A₀ base h₀ L m s Q E B F X Tp hk hp hdp hun hret
  have N : News h₀ L s.heap [] := News.nil
  refine wpAny_call ?_
  k_dflt (refine' Mine.enter0 ?k1 ?k2 ?k3 ?k5 ?kA ?kF ?kK ?k6 ?k7 ?k8 ?k9 ?kB ?_ ?c2 ?c3 ?c4 ?c5; (case kA => exact rfl); (case kF => exact rfl); (case kK => assumption); (case k1 => k_asm); (case k2 => k_asm); (case k3 => k_asm); (case k5 => k_asm); (case k6 => k_is); (case k7 => k_is); (case k8 => ktr_room); (case k9 => first | exact BindsTo.of_eq rfl | exact binds_K (by k_in) rfl (by k_is) rfl rfl rfl); (case c5 => decide); (case kB => exact locs rfl); (case c2 => exact rfl); (case c3 => exact rfl); (case c4 => exact rfl); k_whole; intro L' h' F' N' B' X' T'; (try dsimp only); (try k_lift B'); (try k_fold))
  replace F' : Fr _ _ _ (Mine.put (Str.ofString "number") (.int n t) fun _ => none) := Mine.fr_puts [(Str.ofString "number", .int n t)] F'
  k_steps
  refine go_on ?_
  rename Fr _ _ _ _ => F1
  rename News _ _ _ [] => N1
  with_unfolding_all refine While_inv2 (LpJ _) (n₀ := n.toNat) F1 N1 ⟨rfl, ⟨n, _, _, _, rfl, rfl, h0, rfl, .inl ⟨by decide +kernel, h1⟩, fun c hc => by cases hc⟩, fun _ _ _ => rfl⟩ ?_
  rintro k m₁ nx h tk F2 N2 ⟨rfl, ⟨j, x, t1, t2, e1, e2, hj0, rfl, hb, hc⟩, ho⟩
  replace F2 := fr_given [(Str.ofString "number", _), (Str.ofString "signs", _)] F2 (all2 e1 e2)
  simp only [offs] at F2
  have hx3 : x.length ≤ 3 := by lia
  k_steps
  · rename 0 < j => hj
    rename (Txt.item _ _).length = 1 => hi1
    have hm := Int.emod_emod_of_dvd j (Int.dvd_refl 8)
    have h8 : j.fmod 8 = j % 8 := Int.fmod_eq_emod_of_nonneg j (by decide)
    have hd8 : j.fdiv 8 = j / 8 := Int.fdiv_eq_ediv_of_nonneg j (by decide)
    have hlen : (x ++ Txt.item (Str.ofString "b.uwa&</") (j.fmod 8)).length = x.length + 1 := by rw [Str.length_append, hi1]
    refine ⟨_, _, _, _, (j.fdiv 8).toNat, rfl, by assumption, by assumption, by lia, rfl, ⟨j.fdiv 8, _, _, _, rfl, rfl, by lia, rfl, by rw [hlen, hd8]; lia, ?_⟩, fun z z1 z2 => by refine Eq.trans ?_ (ho z z1 z2); simp only [Mine.put, if_neg z1, if_neg z2]⟩
    intro c hcm
    rw [Str.cps_append, Array.toList_append] at hcm
    rcases List.mem_append.mp hcm with h | h
    · exact hc c h
    · exact lp_sign (by lia) (by lia) c h
  · exact hret _ _ _ (Fr.keep (by assumption)) ⟨_, _, rfl, hx3, hc⟩
end
end Mine

namespace Mine
section
variable {prog : Program} {w : World} {A : Around} {E : Value → Shared → Prop} {s : Shared} {a b : Addr} {Q : Value → Shared → Prop}
theorem sv_get (l : List (Str × Tok)) (j : Nat) (h : j < (strValues l).toArray.size) : ∃ (h' : j < l.length), (strValues l).toArray[j] = .str (l[j]).1 (l[j]).2 := by
  have h' : j < l.length := by simpa [strValues] using h
  exact ⟨h', by simp [strValues]⟩
theorem range_all_eq {l l' : List (Str × Tok)} (hl : l.length = l'.length) {e : Nat → Bool} (he : ∀ j (h1 : j < l.length) (h2 : j < l'.length), e j = ((l[j]).1 == (l'[j]).1)) :
    (List.range l.length).all e = decide (l.map (·.1) = l'.map (·.1)) := by
  rw [Bool.eq_iff_iff, List.all_eq_true, decide_eq_true_eq]
  constructor
  · intro h
    refine List.ext_getElem (by simp [hl]) fun j h1 h2 => ?_
    have h1' : j < l.length := by simpa using h1
    have h2' : j < l'.length := by simpa using h2
    have := h j (List.mem_range.mpr h1')
    rw [he j h1' h2'] at this
    simpa using this
  · intro h j hj
    have h1 : j < l.length := List.mem_range.mp hj
    have h2 : j < l'.length := hl ▸ h1
    rw [he j h1 h2]
    have e1 : (l.map (·.1))[j]? = (l'.map (·.1))[j]? := by rw [h]
    rw [List.getElem?_map, List.getElem?_map, List.getElem?_eq_getElem h1, List.getElem?_eq_getElem h2] at e1
    simpa using e1
theorem eq_strs {l l' : List (Str × Tok)} (hl : s.heap.IsList a (strValues l).toArray) (hb : s.heap.IsList b (strValues l').toArray) (hu : A.units < cLine) (h : Q (.bool (decide (l.map (·.1) = l'.map (·.1)))) s) :
    wpAny (model prog w) A (compareOp .Eq (.ref a) (.ref b)) Q E s := by
  by_cases hz : l.length = l'.length
  · have hs : (strValues l).toArray.size = l.length := by simp [strValues]
    refine SeqAt.eq_listAt (e := fun j => ((l.getD j ("", 0)).1 == (l'.getD j ("", 0)).1)) hl hb (by simp [strValues, hz]) hu (fun j h1 h2 => ?_) ?_
    · obtain ⟨h1', e1⟩ := sv_get l j h1
      obtain ⟨h2', e2⟩ := sv_get l' j h2
      rw [e1, e2]
      have g1 : l.getD j ("", 0) = l[j] := by simp [h1']
      have g2 : l'.getD j ("", 0) = l'[j] := by simp [h2']
      show SeqAt.EqAt A.in1 s _ _ ((l.getD j ("", 0)).1 == (l'.getD j ("", 0)).1)
      rw [g1, g2]
      exact SeqAt.EqAt.str_str _ _ _ _
    · rw [hs, range_all_eq hz (fun j h1 h2 => by simp [h1, h2])]
      exact h
  · refine SeqAt.eq_list_lengthsAt hl hb (by simp [strValues, hz]) hu ?_
    have : decide (l.map (·.1) = l'.map (·.1)) = false := decide_eq_false fun e => hz (by simpa using congrArg List.length e)
    rw [this] at h
    exact h
abbrev pairOf (x : Str) (t : Tok) (y : Str) (u : Tok) : Array Value := #[.str x t, .str y u]
theorem pair_at {s : Shared} {x y x' y' : Str} {t u t' u' : Tok} : ∀ j (h1 : j < (pairOf x t y u).size) (h2 : j < (pairOf x' t' y' u').size), SeqAt.EqAt A.in1 s (pairOf x t y u)[j] (pairOf x' t' y' u')[j] (if j = 0 then x == x' else y == y') := by
  intro j h1 h2
  have hj : j < 2 := h1
  match j, hj with
  | 0, _ => exact SeqAt.EqAt.str_str _ _ _ _
  | 1, _ => exact SeqAt.EqAt.str_str _ _ _ _
theorem eq_pairs {x y x' y' : Str} {t u t' u' : Tok} (ha : s.heap.IsTuple a (pairOf x t y u)) (hb : s.heap.IsTuple b (pairOf x' t' y' u')) (hu : A.units < cLine) (h : Q (.bool (x == x' && y == y')) s) :
    wpAny (model prog w) A (compareOp .Eq (.ref a) (.ref b)) Q E s := by
  refine SeqAt.eq_tupleAt (e := fun j => if j = 0 then x == x' else y == y') ha hb hu pair_at ?_
  have e : ((List.range (min (pairOf x t y u).size (pairOf x' t' y' u').size)).all fun j => if j = 0 then x == x' else y == y') = (x == x' && y == y') := by
    show ([0, 1].all fun j => if j = 0 then x == x' else y == y') = _
    simp
  rw [e]
  simpa using h
theorem ne_pairs {x y x' y' : Str} {t u t' u' : Tok} (ha : s.heap.IsTuple a (pairOf x t y u)) (hb : s.heap.IsTuple b (pairOf x' t' y' u')) (hu : A.units < cLine) (h : Q (.bool (!(x == x' && y == y'))) s) :
    wpAny (model prog w) A (compareOp .NotEq (.ref a) (.ref b)) Q E s := by
  refine SeqAt.RcNeAt.tuples (e := fun j => if j = 0 then x == x' else y == y') ha hb hu pair_at prog w E Q ?_
  have e : ((List.range (min (pairOf x t y u).size (pairOf x' t' y' u').size)).all fun j => if j = 0 then x == x' else y == y') = (x == x' && y == y') := by
    show ([0, 1].all fun j => if j = 0 then x == x' else y == y') = _
    simp
  rw [e]
  simpa using h
end
end Mine

namespace Mine
section
variable {prog : Program} {w : World} {A : Around} {E : Value → Shared → Prop} {s : Shared} {h₀ : Heap} {L a b : Addr} {m : Str → Option Value} {news : List (Addr × Obj)} {Q : Value → Shared → Prop} {l l' : List (Str × Tok)} {lr : List (Str × Tok)} {q : Str × Tok}
theorem strValues_app (l l' : List (Str × Tok)) : strValues (l ++ l') = strValues l ++ strValues l' := by simp [strValues]
theorem strValues_snoc (lr : List (Str × Tok)) (q : Str × Tok) : strValues (lr ++ [q]) = strValues lr ++ [.str q.1 q.2] := by simp [strValues]
theorem strValues_len (lr : List (Str × Tok)) : (strValues lr).length = lr.length := by simp [strValues]
theorem cat_strs (F : Fr h₀ L s.heap m) (N : News h₀ L s.heap news) (hl : s.heap.IsList a (strValues l).toArray) (hb : s.heap.IsList b (strValues l').toArray) (hz : l.length + l'.length ≤ 2000000)
    (h : ∀ c h', Fr h₀ L h' m → News h₀ L h' ((c, W.listOf (strValues (l ++ l')).toArray 0) :: news) → (∀ p ∈ news, p.1 < c) → Q (.ref c) { s with heap := h' }) :
    wpAny (model prog w) A (binaryOp .Add (.ref a) (.ref b)) Q E s :=
  add_lists F N hl hb (fun h' F' N' => h _ h' F' (by rw [strValues_app]; exact N') fun p hp => Heap.lt_size (N p hp).1)
    (by rw [strValues_len, strValues_len, sizeLine_eq]; lia)
theorem take_strs {value slice : PySem.Expr} {k : Int} {u : Tok} {n : Nat} (hk : k = (n : Int)) (F : Fr h₀ L s.heap m) (N : News h₀ L s.heap news) (hl : s.heap.IsList a (strValues l).toArray) (hz : l.length ≤ 2000000)
    (h : ∀ c h', Fr h₀ L h' m → News h₀ L h' ((c, W.listOf (strValues (l.take n)).toArray 0) :: news) → (∀ p ∈ news, p.1 < c) → Q (.ref c) { s with heap := h' })
    (hs : subscripted slice false (.ref a) (.ref s.heap.objs.size) = operate [.ref s.heap.objs.size, .ref a] (getItem (.ref a) (.ref s.heap.objs.size)) := by with_unfolding_all rfl)
    (ht : ∀ r, letTemporaryGo value (.ref a) r = pure () := by intro _; with_unfolding_all rfl) :
    wpAny (model prog w) A (subscriptTail value slice (.ref a) (.ref s.heap.objs.size)) Q E { s with heap := s.heap.push { cls := .type "slice", data := .fields #[.none, .int k u, .none] } } := by
  subst hk
  refine slice_list F N hl .none (.int _ u) (fun h' F' N' => h _ h' F' ?_ fun p hp => Nat.lt_succ_of_lt (Heap.lt_size (N p hp).1)) hs ht (by rw [List.size_toArray, strValues_len, sizeLine_eq]; lia)
  rw [slicePick_upto', List.toList_toArray] at N'
  have e : (strValues l).take n = strValues (l.take n) := by simp [strValues, List.map_take]
  rw [e] at N'
  exact N'
theorem drop_strs {value slice : PySem.Expr} {k : Int} {u : Tok} {n : Nat} (hk : k = (n : Int)) (F : Fr h₀ L s.heap m) (N : News h₀ L s.heap news) (hl : s.heap.IsList a (strValues l).toArray) (hz : l.length ≤ 2000000)
    (h : ∀ c h', Fr h₀ L h' m → News h₀ L h' ((c, W.listOf (strValues (l.drop n)).toArray 0) :: news) → (∀ p ∈ news, p.1 < c) → Q (.ref c) { s with heap := h' })
    (hs : subscripted slice false (.ref a) (.ref s.heap.objs.size) = operate [.ref s.heap.objs.size, .ref a] (getItem (.ref a) (.ref s.heap.objs.size)) := by with_unfolding_all rfl)
    (ht : ∀ r, letTemporaryGo value (.ref a) r = pure () := by intro _; with_unfolding_all rfl) :
    wpAny (model prog w) A (subscriptTail value slice (.ref a) (.ref s.heap.objs.size)) Q E { s with heap := s.heap.push { cls := .type "slice", data := .fields #[.int k u, .none, .none] } } := by
  subst hk
  refine slice_list F N hl (.int _ u) .none (fun h' F' N' => h _ h' F' ?_ fun p hp => Nat.lt_succ_of_lt (Heap.lt_size (N p hp).1)) hs ht (by rw [List.size_toArray, strValues_len, sizeLine_eq]; lia)
  rw [slicePick_from', List.toList_toArray] at N'
  have e : (strValues l).drop n = strValues (l.drop n) := by simp [strValues, List.map_drop]
  rw [e] at N'
  exact N'
theorem truth_nil {Q : Bool → Shared → Prop} (hl : s.heap.IsList a (strValues []).toArray) (h : Q false { s with toks := s.toks + 1 + 1 }) : wpAny (model prog w) A (truthy (.ref a)) Q E s :=
  wpAny_truthy_list hl (by decide) h
theorem truth_snoc {Q : Bool → Shared → Prop} (hl : s.heap.IsList a (strValues (lr ++ [q])).toArray) (hz : lr.length ≤ 2000000) (h : Q true { s with toks := s.toks + 1 + 1 }) : wpAny (model prog w) A (truthy (.ref a)) Q E s := by
  refine wpAny_truthy_list hl ?_ ?_
  · rw [List.size_toArray, strValues_len, List.length_append]; simp only [List.length_cons, List.length_nil]; lia
  · have e : (!(strValues (lr ++ [q])).toArray.isEmpty) = true := by rw [strValues_snoc]; simp
    rw [e]; exact h
theorem truth_split {Q : Bool → Shared → Prop} (hl : s.heap.IsList a (strValues l).toArray) (hz : l.length ≤ 2000000) (h1 : l = [] → Q false { s with toks := s.toks + 1 + 1 }) (h2 : ∀ lr q, lr.length ≤ 2000000 → l = lr ++ [q] → Q true { s with toks := s.toks + 1 + 1 }) :
    wpAny (model prog w) A (truthy (.ref a)) Q E s := by
  rcases List.eq_nil_or_concat l with rfl | ⟨lr, q, rfl⟩
  · exact truth_nil hl (h1 rfl)
  · rw [List.concat_eq_append] at *
    have hz' : lr.length ≤ 2000000 := by rw [List.length_append] at hz; lia
    exact truth_snoc hl hz' (h2 lr q hz' rfl)
theorem last_item {value slice : PySem.Expr} {k : Int} {u : Tok} (hl : s.heap.IsList a (strValues (lr ++ [q])).toArray) (hz : lr.length ≤ 2000000) (hk : k = -1) (h : Q (.str q.1 q.2) s)
    (hs : subscripted slice false (.ref a) (.int k u) = operate [.ref a, .int k u] (getItem (.ref a) (.int k u)) := by with_unfolding_all rfl) :
    wpAny (model prog w) A (subscriptTail value slice (.ref a) (.int k u)) Q E s := by
  subst hk
  have e : (strValues (lr ++ [q])).toArray.size = lr.length + 1 := by rw [List.size_toArray, strValues_len, List.length_append]; rfl
  refine tail_any hl.typeIs slot_list_getitem.lookup (wpAny_getItem_list_neg hl (by decide) (by rw [e]; lia) (by decide) ?_ h) hs
  rw [e, show ((-1 : Int) + ((lr.length + 1 : Nat) : Int)).toNat = lr.length from by lia, strValues_snoc]
  have h1 : (strValues lr).length = lr.length := strValues_len lr
  simp [List.getElem?_append_right, h1]
theorem item_at {value slice : PySem.Expr} {k : Int} {u : Tok} (hl : s.heap.IsList a (strValues l).toArray) (h0 : 0 ≤ k) (h1 : k < 2 ^ 63) (hq : l[k.toNat]? = some q) (h : Q (.str q.1 q.2) s)
    (hs : subscripted slice false (.ref a) (.int k u) = operate [.ref a, .int k u] (getItem (.ref a) (.int k u)) := by with_unfolding_all rfl) :
    wpAny (model prog w) A (subscriptTail value slice (.ref a) (.int k u)) Q E s :=
  tail_any hl.typeIs slot_list_getitem.lookup (wpAny_getItem_list hl h0 h1 (by simp [strValues, hq]) h) hs
theorem len_strs (hl : s.heap.IsList a (strValues l).toArray) (hz : l.length ≤ 2000000) (h : Q (.int l.length (s.toks + 1)) { s with toks := s.toks + 1 + 1 }) : wpAny (model prog w) A (call (.builtin "len") [.ref a]) Q E s := by
  have e : (strValues l).toArray.size = l.length := by rw [List.size_toArray, strValues_len]
  exact call_len_list hl (by rw [e]; lia) (by rw [e]; exact h)
end
end Mine

namespace Mine
theorem splitS_len (x : Str) : (splitS x).1.length ≤ 2 + x.length ∧ (splitS x).2.length ≤ x.length := by
  have h0 : (Str.ofString "").length = 0 := by decide +kernel
  have h1 : (Str.ofString "/").length = 1 := by decide +kernel
  have a := PyProof.Txt.length_slice_le x (some 1) none
  have b := PyProof.Txt.length_slice_le x none (some 2)
  have c := PyProof.Txt.length_slice_le x (some 2) none
  unfold splitS
  split
  · exact ⟨by rw [h0]; exact Nat.zero_le _, Nat.le_refl _⟩
  · split
    · exact ⟨by rw [h1]; exact Nat.le_trans (by decide) (Nat.le_add_right 2 _), a⟩
    · split
      · exact ⟨by rw [h1]; exact Nat.le_trans (by decide) (Nat.le_add_right 2 _), a⟩
      · exact ⟨Nat.le_trans b (Nat.le_add_left _ _), c⟩
theorem strValues_get {l : List (Str × Tok)} {i : Nat} {v : Value} (h : (strValues l)[i]? = some v) : ∃ y u, l[i]? = some (y, u) ∧ v = .str y u := by
  unfold strValues at h
  rw [List.getElem?_map] at h
  cases q : l[i]? with
  | none => rw [q] at h; cases h
  | some p => rw [q] at h; exact ⟨p.1, p.2, rfl, (Option.some.inj h).symm⟩
def lastUp (acc : List Str) : Bool := match acc.getLast? with
  | some q => q == Str.ofString ".."
  | none => false
/-- one part of the path: the parts so far -/
def npStep (root : Str) (acc : List Str) (c : Str) : List Str :=
  if (c.length : Int) = 0 ∨ (c == Str.ofString ".") = true then acc
  else if (c != Str.ofString "..") = true ∨ ((root.length : Int) = 0 ∧ acc.isEmpty = true) ∨ lastUp acc = true then acc ++ [c]
  else acc.dropLast
section
variable {prog : Program} {w : World} {A : Around} {E : Value → Shared → Prop} {s : Shared} {l : Addr} {lr : List (Str × Tok)} {q : Str × Tok}
theorem last_of (lr : List (Str × Tok)) (q : Str × Tok) : kl_last (strValues (lr ++ [q])).toArray.toList = some (strValues lr, .str q.1 q.2) := by
  rw [strValues_snoc]
  show kl_last (strValues lr ++ [Value.str q.1 q.2]) = _
  exact kpa_last _ _
theorem size_of (ln : List (Str × Tok)) (hz : ln.length ≤ 2000000) : (strValues ln).toArray.size ≤ sizeLine := by rw [List.size_toArray, strValues_len, sizeLine_eq]; lia
theorem size_of' (ln : List (Str × Tok)) (hz : ln.length ≤ 2000000) : (strValues ln).toArray.toList.length ≤ sizeLine := by rw [List.toList_toArray, strValues_len, sizeLine_eq]; lia
theorem np_len (root : Str) : ∀ (L acc : List Str), (L.foldl (npStep root) acc).length ≤ acc.length + L.length
  | [], acc => by simp
  | c :: L, acc => by
    have ih := np_len root L (npStep root acc c)
    have h1 : (npStep root acc c).length ≤ acc.length + 1 := by
      unfold npStep
      split
      · exact Nat.le_succ _
      · split
        · rw [List.length_append]; exact Nat.le_refl _
        · rw [List.length_dropLast]; lia
    rw [List.foldl_cons, List.length_cons]
    lia
end
theorem np_take {l ln ln' : List (Str × Tok)} {i : Nat} {y : Str} {u : Tok} {root : Str} (hyu : l[i]? = some (y, u)) (hln : ln.map (·.1) = ((l.take i).map (·.1)).foldl (npStep root) []) (h : ln'.map (·.1) = npStep root (ln.map (·.1)) y) :
    ln'.map (·.1) = ((l.take (i + 1)).map (·.1)).foldl (npStep root) [] := by
  rw [h, hln, List.take_add_one, hyu]
  simp
theorem np_empty {root y : Str} {acc : List Str} (h : (y.length : Int) = 0) : npStep root acc y = acc := by unfold npStep; rw [if_pos (.inl h)]
theorem np_dot {root y : Str} {acc : List Str} (h : (y == Str.ofString ".") = true) : npStep root acc y = acc := by unfold npStep; rw [if_pos (.inr h)]
theorem np_not {y : Str} (h0 : (y.length : Int) ≠ 0) (h1 : (y == Str.ofString ".") = false) : ¬ ((y.length : Int) = 0 ∨ (y == Str.ofString ".") = true) := by
  rintro (h | h)
  · exact h0 h
  · rw [h1] at h; cases h
theorem np_app1 {root y : Str} {acc : List Str} (h0 : (y.length : Int) ≠ 0) (h1 : (y == Str.ofString ".") = false) (h2 : (y != Str.ofString "..") = true) : npStep root acc y = acc ++ [y] := by
  unfold npStep; rw [if_neg (np_not h0 h1), if_pos (.inl h2)]
theorem np_app2 {root y : Str} (h0 : (y.length : Int) ≠ 0) (h1 : (y == Str.ofString ".") = false) (hr : (root.length : Int) = 0) : npStep root [] y = [y] := by
  unfold npStep; rw [if_neg (np_not h0 h1), if_pos (.inr (.inl ⟨hr, rfl⟩))]; rfl
theorem np_app3 {root y q : Str} {acc : List Str} (h0 : (y.length : Int) ≠ 0) (h1 : (y == Str.ofString ".") = false) (hq : (q == Str.ofString "..") = true) : npStep root (acc ++ [q]) y = acc ++ [q] ++ [y] := by
  unfold npStep; rw [if_neg (np_not h0 h1), if_pos (.inr (.inr (by unfold lastUp; rw [List.getLast?_concat]; exact hq)))]
theorem np_stay {root y : Str} (h0 : (y.length : Int) ≠ 0) (h1 : (y == Str.ofString ".") = false) (h2 : (y != Str.ofString "..") = false) (hr : (root.length : Int) ≠ 0) : npStep root [] y = [] := by
  unfold npStep; rw [if_neg (np_not h0 h1), if_neg (by
    rintro (h | ⟨h, _⟩ | h)
    · rw [h2] at h; cases h
    · exact hr h
    · cases h)]; rfl
theorem np_pop {root y q : Str} {acc : List Str} (h0 : (y.length : Int) ≠ 0) (h1 : (y == Str.ofString ".") = false) (h2 : (y != Str.ofString "..") = false) (hq : (q == Str.ofString "..") = false) : npStep root (acc ++ [q]) y = acc := by
  unfold npStep
  rw [if_neg (np_not h0 h1), if_neg (by rw [h2]; simp [lastUp, List.getLast?_concat, hq]), List.dropLast_concat]
theorem ne_two {a b I : Addr} {o1 o2 : Obj} (h1 : a ≠ I) (h2 : b ≠ I) : ∀ p ∈ [(a, o1), (b, o2)], p.1 ≠ I := fun p hp => by
  rcases List.mem_cons.mp hp with rfl | hp
  · exact h1
  · rw [List.mem_singleton.mp hp]; exact h2
theorem push_snoc (ln : List (Str × Tok)) (y : Str) (u : Tok) : (strValues ln).toArray.push (.str y u) = (strValues (ln ++ [(y, u)])).toArray := by rw [strValues_snoc]; simp
/-- the path ahead of the last «or» -/
def normP (x : Str) : Str := (splitS x).1 ++ Txt.join (Str.ofString "/") ((Txt.split (splitS x).2 (Str.ofString "/")).foldl (npStep (splitS x).1) [])
/-- what normpath hands back -/
def normS (x : Str) : Str := if (x.length : Int) = 0 then Str.ofString "." else if ((normP x).length : Int) = 0 then Str.ofString "." else normP x
theorem norm_end1 {x : Str} {t : Tok} (h : (x.length : Int) = 0) : ∃ t', Value.str (Str.ofString ".") t = .str (normS x) t' := ⟨t, by unfold normS; rw [if_pos h]⟩
theorem norm_end2 {x : Str} {t : Tok} {ln : List (Str × Tok)} (hln : ln.map (·.1) = (Txt.split (splitS x).2 (Str.ofString "/")).foldl (npStep (splitS x).1) []) (h : (x.length : Int) ≠ 0)
    (h2 : (((splitS x).1 ++ Txt.join (Str.ofString "/") (ln.map (·.1))).length : Int) = 0) : ∃ t', Value.str (Str.ofString ".") t = .str (normS x) t' :=
  ⟨t, by unfold normS; rw [hln] at h2; rw [if_neg h, if_pos (show ((normP x).length : Int) = 0 from h2)]⟩
theorem norm_end3 {x : Str} {t : Tok} {ln : List (Str × Tok)} (hln : ln.map (·.1) = (Txt.split (splitS x).2 (Str.ofString "/")).foldl (npStep (splitS x).1) []) (h : (x.length : Int) ≠ 0)
    (h2 : (((splitS x).1 ++ Txt.join (Str.ofString "/") (ln.map (·.1))).length : Int) ≠ 0) : ∃ t', Value.str ((splitS x).1 ++ Txt.join (Str.ofString "/") (ln.map (·.1))) t = .str (normS x) t' :=
  ⟨t, by unfold normS; rw [hln] at h2 ⊢; rw [if_neg h, if_neg (show ((normP x).length : Int) ≠ 0 from h2)]; rfl⟩
def weight (L : List Str) : Nat := (L.map (·.length)).sum + L.length
theorem weight_append (a b : List Str) : weight (a ++ b) = weight a + weight b := by
  unfold weight; rw [List.map_append, List.sum_append, List.length_append]; lia
theorem weight_one (c : Str) : weight [c] = c.length + 1 := by simp [weight]
theorem np_weight (root : Str) : ∀ (L acc : List Str), weight (L.foldl (npStep root) acc) ≤ weight acc + weight L
  | [], acc => by simp [weight]
  | c :: L, acc => by
    have ih := np_weight root L (npStep root acc c)
    have h1 : weight (npStep root acc c) ≤ weight acc + (c.length + 1) := by
      unfold npStep
      split
      · lia
      · split
        · rw [weight_append, weight_one]; exact Nat.le_refl _
        · rcases List.eq_nil_or_concat acc with rfl | ⟨r, q, rfl⟩
          · simp [weight]
          · rw [List.concat_eq_append, List.dropLast_concat, weight_append]; lia
    have h2 : weight (c :: L) = c.length + 1 + weight L := by
      rw [← List.singleton_append, weight_append, weight_one]
    rw [List.foldl_cons]
    lia
theorem join_len (sep : Str) : ∀ L : List Str, (Str.join sep L).length ≤ (L.map (·.length)).sum + L.length * sep.length
  | [] => by simp [Str.join]; decide
  | [p] => by simp [Str.join]
  | p :: q :: r => by
    have ih := join_len sep (q :: r)
    show (p ++ sep ++ Str.join sep (q :: r)).length ≤ _
    rw [Str.length_append, Str.length_append, List.map_cons, List.sum_cons, List.length_cons, Nat.succ_mul]
    lia
theorem txt_join_len (L : List Str) : (Txt.join (Str.ofString "/") L).length ≤ weight L := by
  show (Builtin.Str.glued (Str.ofString "/") L).length ≤ _
  rw [StrLaws.glued_eq_join]
  have h := join_len (Str.ofString "/") L
  have h1 : (Str.ofString "/").length = 1 := by decide +kernel
  rw [h1, Nat.mul_one] at h
  exact h
theorem join_ok {L : List Str} (h : weight L ≤ 2000000) : JoinOk (Str.ofString "/") L = true := by
  refine joinOk_of ?_
  have h1 : (Str.ofString "/").length = 1 := by decide +kernel
  rw [h1]
  unfold weight at h
  lia
/-- the turns: the new parts grow and shrink in their list -/
def NpJ (an ac : Addr) (lc : List (Str × Tok)) (root : Str) (m₀ : Str → Option Value) (i : Nat) (m : Str → Option Value) (nx : List (Addr × Obj)) : Prop :=
  (∃ ln its c, nx = [(an, W.listOf its c), (ac, { cls := .type "list", data := .seq (strValues lc).toArray })] ∧ its = (strValues ln).toArray ∧ ln.map (·.1) = ((lc.take i).map (·.1)).foldl (npStep root) []) ∧
    ∀ z, z ≠ Str.ofString "comp" → m z = m₀ z
section
local macro_rules | `(tactic| walk_at "call builtin:list.pop") => `(tactic| (k_here; (with_reducible show wpAny _ _ (call (Value.builtin _) [Value.ref _]) _ _ _); k_dflt (refine' kl_pop ?F ?N ?e ?U ?z ?_; (case F => k_asm); (case N => k_asm); (case U => k_upd); (case e => exact Mine.last_of _ _); (case z => exact Mine.size_of' _ (by assumption)); k_whole); intro h' F' N'; (try k_sweep)))
set_option maxHeartbeats 4000000 in
theorem normpath_tells (w : World) (mean : ExcName → Option Value) (mg mb : Str → Option Value) (x : Str) (t : Tok) (hx : x.length ≤ 1048576) :
    Tell w mean mg mb 136 6 48 [.str x t] (fun _ => True) (fun _ _ v => ∃ t', v = .str (normS x) t') := by
  k_with_none
  k_with "call builtin:issubclass" => (k_here; (with_reducible show wpAny _ _ (call (Value.builtin "issubclass") [Value.type "str", Value.ref _]) _ _ _); k_dflt (refine' Mine.issub_tuple (by exact News.get (by k_asm) (by k_mem)) ?_; k_whole); intro tk')
  k_with "call ref" => (k_here; (with_reducible show wpAny _ _ (call (Value.ref 94) [Value.str _ _]) _ _ _); k_dflt (k_call_by "use" (Mine.fspath_tells _ _ _ _ _ _)); (case kp => trivial); intro v' h' tk' F' N' st' r'; subst r'; clear st'; (try dsimp only); (try k_fold); (try k_sweep))
  k_with "call ref" => (k_here; (with_reducible show wpAny _ _ (call (Value.ref 108) [Value.str _ _]) _ _ _); k_dflt (k_call_by "use" (Mine.getsep_tells _ _ _ _ _ _)); (case kp => trivial); intro v' h' tk' F' N' st' r'; (try dsimp only at r'); obtain ⟨t', r'⟩ := r'; subst r'; clear st'; (try dsimp only); (try k_fold); (try k_sweep))
  k_with "call ref" => (k_here; (with_reducible show wpAny _ _ (call (Value.ref 122) [Value.str _ _]) _ _ _); k_dflt (k_call_by "new" (Mine.splitroot_tells _ _ _ _ _ _ (by first | assumption | lia))); (case kp => trivial); intro v' h' tk' F' N' nw' r'; (try dsimp only at r'); obtain ⟨a', t1', t2', t3', r', r2', r3'⟩ := r'; subst r'; (replace N' := nw' _ _ r2' r3'); clear nw' r2' r3'; (try dsimp only); (try k_fold); (try k_sweep))
  k_with "storeName" => (k_here; k_dflt (refine' Mine.store_put (by k_asm) (by k_asm) ?_ (by rfl) (by rfl); k_whole; intro h' F' N'; (try k_sweep)))
  k_with "call builtin:str.join" => (k_here; (with_reducible show wpAny _ _ (call (Value.builtin "str.join") [Value.str _ _, Value.ref _]) _ _ _); k_dflt (refine' SC.join (by exact News.isList (by k_asm) (by k_mem)) rfl (by exact Mine.join_ok (by lia)) ?_; k_whole); intro t' k')
  k_with "truthy ref" => (k_here; (with_reducible show wpAny _ _ (truthy (Value.ref _)) _ _ _); k_dflt (first | (refine Mine.truth_nil (News.isList (by k_asm) (by k_mem)) ?_) | (refine Mine.truth_snoc (News.isList (by k_asm) (by k_mem)) (by assumption) ?_) | (refine Mine.truth_split (News.isList (by k_asm) (by k_mem)) (by assumption) (fun e0 => ?_) (fun lr q hz' e0 => ?_) <;> subst e0)))
  k_with "subscriptTail" => (k_here; (with_reducible show wpAny _ _ (subscriptTail _ _ (Value.ref _) (Value.int _ _)) _ _ _); k_dflt (refine' Mine.last_item (by exact News.isList (by k_asm) (by k_mem)) (by assumption) (by first | rfl | decide) ?_; k_whole))
  k_with "call builtin:list.append" => (k_here; (with_reducible show wpAny _ _ (call (Value.builtin _) [Value.ref _, _]) _ _ _); k_dflt (refine' append_K (by k_asm) (by k_asm) (by k_upd) ?_ (by exact Mine.size_of _ (by assumption)); k_whole); intro h' F' N'; (try k_sweep))
  unfold Tell
  k_fill
  intro dp un gd cn cs a ccd cl outer A₀ base h₀ L m s Q E B F X Tp hk hp hdp hun hret
  have N : News h₀ L s.heap [] := News.nil
  refine wpAny_call ?_
  k_dflt (refine' Mine.enter0 ?k1 ?k2 ?k3 ?k5 ?kA ?kF ?kK ?k6 ?k7 ?k8 ?k9 ?kB ?_ ?c2 ?c3 ?c4 ?c5; (case kA => exact rfl); (case kF => exact rfl); (case kK => assumption); (case k1 => k_asm); (case k2 => k_asm); (case k3 => k_asm); (case k5 => k_asm); (case k6 => k_is); (case k7 => k_is); (case k8 => ktr_room); (case k9 => first | exact BindsTo.of_eq rfl | exact binds_K (by k_in) rfl (by k_is) rfl rfl rfl); (case c5 => decide); (case kB => exact locs rfl); (case c2 => exact rfl); (case c3 => exact rfl); (case c4 => exact rfl); k_whole; intro L' h' F' N' B' X' T'; (try dsimp only); (try k_lift B'); (try k_fold))
  replace F' : Fr _ _ _ (Mine.put (Str.ofString "path") (.str x t) fun _ => none) := Mine.fr_puts [(Str.ofString "path", .str x t)] F'
  obtain ⟨hs1, hs2⟩ := splitS_len x
  k_steps
  · rename Fr _ _ _ _ => F1
    rename News _ _ _ (_ :: _ :: _) => N1
    rename _ < _ ∧ _ < _ => l1
    rename Heap.IsList _ _ _ => hl1
    rename List.map _ _ = Txt.split _ _ => hsp
    rename StrsAre _ _ => hsa
    rename List (Str × Tok) => l
    have N2 : News _ _ _ [_, _] := fun p hp => N1 p (by
      rcases List.mem_cons.mp hp with rfl | hp
      · exact .head _
      · rw [List.mem_singleton.mp hp]; exact .tail _ (.head _))
    rename ∀ a ∈ _, Str.length a ≤ _ => hlen
    refine' loop_led (NpJ _ _ _ (splitS x).1 _) rfl (.tail _ (.head _)) ?hm F1 N2 ⟨⟨[], _, _, rfl, rfl, rfl⟩, fun _ _ => rfl⟩ ?ht ?hd
    case hm =>
      rintro i m nx ⟨⟨ln, its, c, rfl, _⟩, _⟩; exact .tail _ (.head _)
    case ht =>
      rintro i v m₁ nx h tk I oI hv ⟨⟨ln, its, c, rfl, rfl, hln⟩, ho⟩ hnI F3 N3
      replace F3 := fr_offs [] F3 (fun _ hp => nomatch hp) (fun z hz _ => ho z hz)
      simp only [offs] at F3
      obtain ⟨y, u, hyu, rfl⟩ := strValues_get hv
      have hy := hlen y (List.mem_map.mpr ⟨_, List.mem_of_getElem? hyu, rfl⟩)
      have hy' : y.length ≤ 1048576 := Nat.le_trans hy (Nat.le_trans hs2 hx)
      have hll : l.length ≤ 1048577 := by
        have h9 := split_weight (splitS x).2 (Str.ofString "/") (by decide +kernel)
        rw [← hsp, List.length_map] at h9
        lia
      have hz : ln.length ≤ 2000000 := by
        have h9 := np_len (splitS x).1 ((l.take i).map (·.1)) []
        rw [← hln, List.length_map, List.length_map, List.length_take] at h9
        simp only [List.length_nil] at h9
        lia
      have hI1 := neN (hnI _ (.head _))
      have hI2 := neN (hnI _ (.tail _ (.head _)))
      dsimp only at hI1 hI2
      have off : ∀ (v : Value) (m₀ : Str → Option Value) (z : Str), z ≠ Str.ofString "comp" → (fun y => if y = Str.ofString "comp" then some v else m₀ y) z = m₀ z := fun v m₀ z hz => if_neg hz
      have e1 : ∀ (lr : List (Str × Tok)) (q : Str × Tok), (lr ++ [q]).map (·.1) = lr.map (·.1) ++ [q.1] := by intro lr q; simp
      k_steps
      all_goals first
        | exact turn_end [_, _] (by assumption) (by assumption) (ne_two hI1 hI2) ⟨⟨ln, _, _, rfl, rfl, np_take hyu hln (np_empty (by assumption)).symm⟩, off _ _⟩
        | exact turn_end [_, _] (by assumption) (by assumption) (ne_two hI1 hI2) ⟨⟨ln, _, _, rfl, rfl, np_take hyu hln (np_dot (by assumption)).symm⟩, off _ _⟩
        | exact turn_end [_, _] (by assumption) (by assumption) (ne_two hI1 hI2) ⟨⟨ln ++ [(y, u)], _, _, rfl, push_snoc _ y u, np_take hyu hln (by rw [e1]; exact (np_app1 (by assumption) (by assumption) (by assumption)).symm)⟩, off _ _⟩
        | exact turn_end [_, _] (by assumption) (by assumption) (ne_two hI1 hI2) ⟨⟨[], _, _, rfl, rfl, np_take hyu hln (np_stay (by assumption) (by assumption) (by assumption) (by assumption)).symm⟩, off _ _⟩
        | exact turn_end [_, _] (by assumption) (by assumption) (ne_two hI1 hI2) ⟨⟨[(y, u)], _, _, rfl, push_snoc [] y u, np_take hyu hln (show [y] = npStep (splitS x).1 [] y from (np_app2 (by assumption) (by assumption) (by assumption)).symm)⟩, off _ _⟩
        | exact turn_end [_, _] (by assumption) (by assumption) (ne_two hI1 hI2) ⟨⟨lr, _, _, rfl, rfl, np_take hyu hln (by rw [e1]; exact (np_pop (by assumption) (by assumption) (by assumption) (by assumption)).symm)⟩, off _ _⟩
        | exact turn_end [_, _] (by assumption) (by assumption) (ne_two hI1 hI2) ⟨⟨lr ++ [q] ++ [(y, u)], _, _, rfl, push_snoc _ y u, np_take hyu hln (by rw [e1, e1]; exact (np_app3 (by assumption) (by assumption) (by assumption)).symm)⟩, off _ _⟩
    case hd =>
      rintro m₁ nx h tk ⟨⟨ln, its, c, rfl, rfl, hln⟩, ho⟩ F3 N3
      rw [strValues_len, List.take_length, hsp] at hln
      replace F3 := fr_outs (x := Str.ofString "comp") [] F3 (fun _ hp => nomatch hp) (fun z hz _ => ho z hz)
      simp only [offs] at F3
      have hw : weight (ln.map (·.1)) ≤ 1048577 := by
        have h9 := split_weight (splitS x).2 (Str.ofString "/") (by decide +kernel)
        have h8 := np_weight (splitS x).1 (Txt.split (splitS x).2 (Str.ofString "/")) []
        rw [← hln] at h8
        have h7 : weight ([] : List Str) = 0 := rfl
        unfold weight at h8 ⊢
        unfold weight at h7
        lia
      have hjl := txt_join_len (ln.map (·.1))
      k_steps
      all_goals first
        | exact hret _ _ _ (Fr.keep (by assumption)) (norm_end2 hln (by assumption) (by assumption))
        | exact hret _ _ _ (Fr.keep (by assumption)) (norm_end3 hln (by assumption) (by assumption))
  all_goals exact hret _ _ _ (Fr.keep (by assumption)) (norm_end1 (by assumption))
end
end Mine

namespace Mine
/-- what _law_ahead hands back -/
def aheadL (f g seam : List Str) : List Str :=
  if g.take 1 = [Str.ofString "/"] then [] else if f = [] then [] else if (f.getLast? = some (Str.ofString "/")) then f else f ++ seam
/-- a list of texts: new, or the given one -/
abbrev ListEnd (a1 : Addr) (xs : List Str) (h h' : Heap) (v : Value) : Prop := ∃ b c l, v = .ref b ∧ (h.get? b = none ∨ b = a1) ∧ h'.get? b = some (W.listOf (strValues l).toArray c) ∧ l.map (·.1) = xs
section
variable {a1 b : Addr} {h h' : Heap} {L : Addr} {c : Nat} {rest : List (Addr × Obj)} {xs : List Str}
theorem list_new (l : List (Str × Tok)) (N : News h L h' ((b, W.listOf (strValues l).toArray c) :: rest)) (e : l.map (·.1) = xs) : ListEnd a1 xs h h' (.ref b) := ⟨b, c, l, rfl, .inl (N.fresh (.head _)), N.get (.head _), e⟩
theorem list_old (l : List (Str × Tok)) (G : h'.get? a1 = some (W.listOf (strValues l).toArray c)) (e : l.map (·.1) = xs) : ListEnd a1 xs h h' (.ref a1) := ⟨a1, c, l, rfl, .inr rfl, G, e⟩
end
section
theorem ah1 {f g : List Str} {seam : List Str} (h : g.take 1 = [Str.ofString "/"]) : [] = aheadL f g seam := by unfold aheadL; rw [if_pos h]
theorem ah2 {g : List Str} {seam : List Str} (h : ¬ g.take 1 = [Str.ofString "/"]) : [] = aheadL [] g seam := by unfold aheadL; rw [if_neg h, if_pos rfl]
theorem ah3 {g r : List Str} {q : Str} {seam : List Str} (h : ¬ g.take 1 = [Str.ofString "/"]) (hq : (q == Str.ofString "/") = true) : r ++ [q] = aheadL (r ++ [q]) g seam := by
  unfold aheadL
  rw [if_neg h, if_neg (by simp), if_pos (by rw [List.getLast?_concat, eq_of_beq hq])]
theorem ah4 {g r : List Str} {q : Str} {seam : List Str} (h : ¬ g.take 1 = [Str.ofString "/"]) (hq : (q == Str.ofString "/") = false) : r ++ [q] ++ seam = aheadL (r ++ [q]) g seam := by
  unfold aheadL
  rw [if_neg h, if_neg (by simp), if_neg (by rw [List.getLast?_concat]; intro e; rw [Option.some.inj e] at hq; simp at hq)]
-- the walker keeps what it found for a number of rules: this row makes the number another than the section ahead has
set_option maxHeartbeats 4000000 in
theorem lahead_tells (w : World) (mean : ExcName → Option Value) (mg mb : Str → Option Value) (a1 a2 a3 : Addr) (c1 : Nat) (l1 l2 l3 : List (Str × Tok)) (hz : l1.length + l3.length ≤ 2000000) (hz2 : l2.length ≤ 2000000) :
    Tell w mean mg mb 180 3 80 [.ref a1, .ref a2, .ref a3] (fun s => s.heap.get? a1 = some (W.listOf (strValues l1).toArray c1) ∧ s.heap.IsList a2 (strValues l2).toArray ∧ s.heap.IsList a3 (strValues l3).toArray)
      (ListEnd a1 (aheadL (l1.map (·.1)) (l2.map (·.1)) (l3.map (·.1)))) := by
  k_with_none
  k_with "call builtin:issubclass" => (k_here; (with_reducible show wpAny _ _ (call (Value.builtin "issubclass") [Value.type "str", Value.ref _]) _ _ _); k_dflt (refine' Mine.issub_tuple (by exact News.get (by k_asm) (by k_mem)) ?_; k_whole); intro tk')
  k_with "call ref" => (k_here; (with_reducible show wpAny _ _ (call (Value.ref 94) [Value.str _ _]) _ _ _); k_dflt (k_call_by "use" (Mine.fspath_tells _ _ _ _ _ _)); (case kp => trivial); intro v' h' tk' F' N' st' r'; subst r'; clear st'; (try dsimp only); (try k_fold); (try k_sweep))
  k_with "call ref" => (k_here; (with_reducible show wpAny _ _ (call (Value.ref 108) [Value.str _ _]) _ _ _); k_dflt (k_call_by "use" (Mine.getsep_tells _ _ _ _ _ _)); (case kp => trivial); intro v' h' tk' F' N' st' r'; (try dsimp only at r'); obtain ⟨t', r'⟩ := r'; subst r'; clear st'; (try dsimp only); (try k_fold); (try k_sweep))
  k_with "call ref" => (k_here; (with_reducible show wpAny _ _ (call (Value.ref 122) [Value.str _ _]) _ _ _); k_dflt (k_call_by "new" (Mine.splitroot_tells _ _ _ _ _ _ (by first | assumption | lia))); (case kp => trivial); intro v' h' tk' F' N' nw' r'; (try dsimp only at r'); obtain ⟨a', t1', t2', t3', r', r2', r3'⟩ := r'; subst r'; (replace N' := nw' _ _ r2' r3'); clear nw' r2' r3'; (try dsimp only); (try k_fold); (try k_sweep))
  k_with "storeName" => (k_here; k_dflt (refine' Mine.store_put (by k_asm) (by k_asm) ?_ (by rfl) (by rfl); k_whole; intro h' F' N'; (try k_sweep)))
  k_with "mine pad" => skip
  k_with "mine list" => first | with_reducible assumption | exact News.isList (by k_asm) (by k_mem) | exact Fr.lst (by k_asm) (by assumption)
  k_with "subscriptTail" => (k_here; (with_reducible show wpAny _ _ (subscriptTail _ _ (Value.ref _) (Value.ref _)) _ _ _); k_dflt (refine' Mine.take_strs (s := ⟨_, _, _, _, _⟩) (n := 1) (by rfl) (by k_asm) (by k_asm) (by walk_at "mine list") (by assumption) ?_; k_whole); intro c' h' F' N' l1; (try k_lt l1); (try k_sweep))
  k_with "subscriptTail" => (k_here; (with_reducible show wpAny _ _ (subscriptTail _ _ (Value.ref _) (Value.int _ _)) _ _ _); k_dflt (refine' Mine.last_item (by walk_at "mine list") (by assumption) (by first | rfl | decide) ?_; k_whole))
  k_with "compareOp Eq ref ref" => (k_here; (with_reducible show wpAny _ _ (compareOp CmpOp.Eq (Value.ref _) (Value.ref _)) _ _ _); k_dflt (first | (refine' Mine.eq_strs (l' := [(Str.ofString "/", _)]) (by walk_at "mine list") (by walk_at "mine list") (by ktr_units) ?_; k_whole) | (refine' Mine.eq_strs (l' := []) (by walk_at "mine list") (by walk_at "mine list") (by ktr_units) ?_; k_whole)))
  k_with "binaryOp Add" => (k_here; (with_reducible show wpAny _ _ (binaryOp _ (Value.ref _) (Value.ref _)) _ _ _); k_dflt (refine' Mine.cat_strs (by k_asm) (by k_asm) (by walk_at "mine list") (by walk_at "mine list") (by assumption) ?_; k_whole); intro c' h' F' N' l1; (try k_lt l1); (try k_sweep))
  unfold Tell
  k_fill
  intro dp un gd cn cs a ccd cl outer A₀ base h₀ L m s Q E B F X Tp hk hp hdp hun hret
  have N : News h₀ L s.heap [] := News.nil
  obtain ⟨G1, H2, H3⟩ := hp
  have H1 : s.heap.IsList a1 (strValues l1).toArray := ⟨_, G1, rfl, _, rfl⟩
  refine wpAny_call ?_
  k_dflt (refine' Mine.enter0 ?k1 ?k2 ?k3 ?k5 ?kA ?kF ?kK ?k6 ?k7 ?k8 ?k9 ?kB ?_ ?c2 ?c3 ?c4 ?c5; (case kA => exact rfl); (case kF => exact rfl); (case kK => assumption); (case k1 => k_asm); (case k2 => k_asm); (case k3 => k_asm); (case k5 => k_asm); (case k6 => k_is); (case k7 => k_is); (case k8 => ktr_room); (case k9 => first | exact BindsTo.of_eq rfl | exact binds_K (by k_in) rfl (by k_is) rfl rfl rfl); (case c5 => decide); (case kB => exact locs rfl); (case c2 => exact rfl); (case c3 => exact rfl); (case c4 => exact rfl); k_whole; intro L' h' F' N' B' X' T'; (try dsimp only); (try k_lift B'); (try k_fold))
  replace F' : Fr _ _ _ (Mine.put (Str.ofString "seam") (.ref a3) (Mine.put (Str.ofString "second") (.ref a2) (Mine.put (Str.ofString "first") (.ref a1) fun _ => none))) := Mine.fr_puts [(Str.ofString "seam", .ref a3), (Str.ofString "second", .ref a2), (Str.ofString "first", .ref a1)] F'
  rcases List.eq_nil_or_concat l1 with rfl | ⟨lr, q, rfl⟩
  · k_steps
    all_goals first
      | exact hret _ _ _ (Fr.keep (by assumption)) (list_new [] (by assumption) (ah1 (by rw [← List.map_take]; assumption)))
      | exact hret _ _ _ (Fr.keep (by assumption)) (list_new [] (by assumption) (ah2 (by rw [← List.map_take]; assumption)))
  · rw [List.concat_eq_append] at *
    have hzr : lr.length ≤ 2000000 := by rw [List.length_append] at hz; lia
    have e1 : (lr ++ [q]).map (·.1) = lr.map (·.1) ++ [q.1] := by simp
    k_steps
    all_goals first
      | exact hret _ _ _ (Fr.keep (by assumption)) (list_new [] (by assumption) (ah1 (by rw [← List.map_take]; assumption)))
      | exact hret _ _ _ (Fr.keep (by assumption)) (list_old (lr ++ [q]) (Fr.keep (by assumption) _ _ G1) (by rw [e1]; exact ah3 (by rw [← List.map_take]; assumption) (by assumption)))
      | exact hret _ _ _ (Fr.keep (by assumption)) (list_new (lr ++ [q] ++ l3) (by assumption) (by rw [List.map_append, e1]; exact ah4 (by rw [← List.map_take]; assumption) (by assumption)))
      | (exfalso; rename List.map _ (_ ++ _) = List.map _ [] => hbad; simp at hbad; done)
end
end Mine

namespace Mine
section
variable {prog : Program} {w : World} {A : Around} {E : Value → Shared → Prop} {s : Shared} {h₀ : Heap} {L a b : Addr} {m : Str → Option Value} {news : List (Addr × Obj)} {Q : Value → Shared → Prop} {l l' : List (Str × Tok)} {lr : List (Str × Tok)} {q : Str × Tok}
theorem butlast_strs {value slice : PySem.Expr} {k : Int} {u : Tok} (hk : k = -1) (F : Fr h₀ L s.heap m) (N : News h₀ L s.heap news) (hl : s.heap.IsList a (strValues l).toArray) (hz : l.length ≤ 2000000)
    (h : ∀ c h', Fr h₀ L h' m → News h₀ L h' ((c, W.listOf (strValues l.dropLast).toArray 0) :: news) → (∀ p ∈ news, p.1 < c) → Q (.ref c) { s with heap := h' })
    (hs : subscripted slice false (.ref a) (.ref s.heap.objs.size) = operate [.ref s.heap.objs.size, .ref a] (getItem (.ref a) (.ref s.heap.objs.size)) := by with_unfolding_all rfl)
    (ht : ∀ r, letTemporaryGo value (.ref a) r = pure () := by intro _; with_unfolding_all rfl) :
    wpAny (model prog w) A (subscriptTail value slice (.ref a) (.ref s.heap.objs.size)) Q E { s with heap := s.heap.push { cls := .type "slice", data := .fields #[.none, .int k u, .none] } } := by
  subst hk
  refine slice_list F N hl .none (.int _ u) (fun h' F' N' => h _ h' F' ?_ fun p hp => Nat.lt_succ_of_lt (Heap.lt_size (N p hp).1)) hs ht (by rw [List.size_toArray, strValues_len, sizeLine_eq]; lia)
  rw [show (-1 : Int) = -((1 : Nat) : Int) from rfl, slicePick_butLast _ 1 (Nat.le_refl _), List.toList_toArray] at N'
  have e : (strValues l).take ((strValues l).toArray.size - 1) = strValues l.dropLast := by rw [List.size_toArray, List.dropLast_eq_take, strValues_len]; simp [strValues, List.map_take]
  rw [e] at N'
  exact N'
theorem mul_strs {x : Str} {t : Tok} {n : Nat} {k : Int} {u : Tok} (hk : k = (n : Int)) (F : Fr h₀ L s.heap m) (N : News h₀ L s.heap news)
    (hl : s.heap.get? a = some (W.listOf (strValues [(x, t)]).toArray 0)) (hz : n ≤ 2000000)
    (h : ∀ c h', Fr h₀ L h' m → News h₀ L h' ((c, W.listOf (strValues (List.replicate n (x, t))).toArray 0) :: news) → (∀ p ∈ news, p.1 < c) → Q (.ref c) { s with heap := h' }) :
    wpAny (model prog w) A (binaryOp .Mult (.ref a) (.int k u)) Q E s := by
  subst hk
  refine mul_list F N hl (by lia) (by lia) (by rw [List.size_toArray, strValues_len, Int.toNat_natCast, List.length_singleton]; lia) fun h' F' N' => h _ h' F' ?_ fun p hp => Heap.lt_size (N p hp).1
  have e : List.foldl (fun x1 x2 => x1 ++ x2) #[] (List.replicate (if (strValues [(x, t)]).toArray.isEmpty = true then 0 else ((n : Int)).toNat) (strValues [(x, t)]).toArray) = (strValues (List.replicate n (x, t))).toArray := by
    rw [listMul_foldl, Int.toNat_natCast]
    simp [strValues]
  rw [e] at N'
  exact N'
theorem ne_strs {l l' : List (Str × Tok)} (hl : s.heap.IsList a (strValues l).toArray) (hb : s.heap.IsList b (strValues l').toArray) (hu : A.units < cLine) (h : Q (.bool (!decide (l.map (·.1) = l'.map (·.1)))) s) :
    wpAny (model prog w) A (compareOp .NotEq (.ref a) (.ref b)) Q E s := by
  by_cases hz : l.length = l'.length
  · have hs : (strValues l).toArray.size = l.length := by simp [strValues]
    refine SeqAt.RcNeAt.lists (e := fun j => ((l.getD j ("", 0)).1 == (l'.getD j ("", 0)).1)) hl hb (by simp [strValues, hz]) hu (fun j h1 h2 => ?_) prog w E Q ?_
    · obtain ⟨h1', e1⟩ := sv_get l j h1
      obtain ⟨h2', e2⟩ := sv_get l' j h2
      rw [e1, e2]
      have g1 : l.getD j ("", 0) = l[j] := by simp [h1']
      have g2 : l'.getD j ("", 0) = l'[j] := by simp [h2']
      show SeqAt.EqAt A.in1 s _ _ ((l.getD j ("", 0)).1 == (l'.getD j ("", 0)).1)
      rw [g1, g2]
      exact SeqAt.EqAt.str_str _ _ _ _
    · rw [hs, range_all_eq hz (fun j h1 h2 => by simp [h1, h2])]
      exact h
  · refine SeqAt.RcNeAt.lists_lengths hl hb (by simp [strValues, hz]) hu prog w E Q ?_
    have : decide (l.map (·.1) = l'.map (·.1)) = false := decide_eq_false fun e => hz (by simpa using congrArg List.length e)
    rw [this] at h
    exact h
end
theorem fr_over {h₀ h : Heap} {L : Addr} {m₁ m₀ : Str → Option Value} (ps : List (Str × Value)) (F : Fr h₀ L h m₁) (h1 : ∀ p ∈ ps, m₁ p.1 = some p.2) (ho : ∀ z, (∀ p ∈ ps, z ≠ p.1) → m₁ z = m₀ z) : Fr h₀ L h (offs ps m₀) := by
  have e : offs ps m₀ = m₁ := funext fun z => offs_eq h1 fun h => ho z h
  rw [e]; exact F
/-- the state of the walk over the signs -/
structure WK where
  up : Nat
  names : List Str
  hand : Str
  last : Str
def wkStep (f : Nat) (c : WK) (y : Str) : WK :=
  if (y != Str.ofString "/") = true then { c with hand := c.hand ++ y }
  else if (c.hand == Str.ofString "..") = true ∧ c.names ≠ [] then { c with names := c.names.dropLast, hand := Str.ofString "", last := c.hand }
  else if (c.hand == Str.ofString "..") = true ∧ f = 0 then { c with up := c.up + 1, hand := Str.ofString "", last := c.hand }
  else if c.hand ∉ [Str.ofString "", Str.ofString ".", Str.ofString ".."] then { c with names := c.names ++ [c.hand], hand := Str.ofString "", last := c.hand }
  else { c with hand := Str.ofString "", last := c.hand }
def wk0 : WK := ⟨0, [], Str.ofString "", Str.ofString ""⟩
def frontN (xs : List Str) : Nat := (xs.takeWhile (· == Str.ofString "/")).length
theorem frontN_of {xs : List Str} : ∀ {f : Nat}, (∀ j, j < f → xs[j]? = some (Str.ofString "/")) → xs[f]? ≠ some (Str.ofString "/") → frontN xs = f := by
  induction xs with
  | nil =>
    intro f h1 h2
    cases f with
    | zero => rfl
    | succ n => have := h1 0 (Nat.succ_pos _); cases this
  | cons x xs ih =>
    intro f h1 h2
    cases f with
    | zero =>
      have hx : (x == Str.ofString "/") = false := by
        cases e : x == Str.ofString "/" with
        | false => rfl
        | true => exact absurd (congrArg some (eq_of_beq e)) h2
      unfold frontN
      rw [List.takeWhile_cons, hx]; rfl
    | succ n =>
      have hx : x = Str.ofString "/" := by have := h1 0 (Nat.succ_pos _); exact Option.some.inj this
      have := ih (f := n) (fun j hj => by have := h1 (j + 1) (Nat.succ_lt_succ hj); simpa using this) (by simpa using h2)
      unfold frontN at this ⊢
      rw [List.takeWhile_cons, hx]
      simp [this]
theorem frontN_le (xs : List Str) : frontN xs ≤ xs.length := by
  unfold frontN
  exact (List.takeWhile_sublist _).length_le
def walkC (xs : List Str) : WK := (xs.drop (frontN xs) ++ [Str.ofString "/"]).foldl (wkStep (frontN xs)) wk0
def walkPlace (xs : List Str) : Str :=
  (if frontN xs < 3 then Txt.mul (Str.ofString "/") (frontN xs) else Str.ofString "/") ++ Txt.join (Str.ofString "/") (List.replicate (walkC xs).up (Str.ofString "..") ++ (walkC xs).names)
def walkS (xs : List Str) : Str × Str := (if (walkPlace xs != Str.ofString "") = true then walkPlace xs else Str.ofString ".", (walkC xs).last)
theorem wk_sign {f : Nat} {c : WK} {y : Str} (h : (y != Str.ofString "/") = true) : wkStep f c y = { c with hand := c.hand ++ y } := by unfold wkStep; rw [if_pos h]
theorem wk_not {y : Str} (h : (y != Str.ofString "/") = false) : ¬ (y != Str.ofString "/") = true := by rw [h]; decide
theorem wk_pop {f : Nat} {c : WK} {y : Str} (h : (y != Str.ofString "/") = false) (h1 : (c.hand == Str.ofString "..") = true) (h2 : c.names ≠ []) : wkStep f c y = { c with names := c.names.dropLast, hand := Str.ofString "", last := c.hand } := by
  unfold wkStep; rw [if_neg (wk_not h), if_pos ⟨h1, h2⟩]
theorem wk_up {f : Nat} {c : WK} {y : Str} (h : (y != Str.ofString "/") = false) (h1 : (c.hand == Str.ofString "..") = true) (h2 : c.names = []) (h3 : f = 0) : wkStep f c y = { c with up := c.up + 1, hand := Str.ofString "", last := c.hand } := by
  unfold wkStep; rw [if_neg (wk_not h), if_neg (fun e => e.2 h2), if_pos ⟨h1, h3⟩]
theorem wk_lost {f : Nat} {c : WK} {y : Str} (h : (y != Str.ofString "/") = false) (h1 : (c.hand == Str.ofString "..") = true) (h2 : c.names = []) (h3 : ¬ f = 0) : wkStep f c y = { c with hand := Str.ofString "", last := c.hand } := by
  unfold wkStep; rw [if_neg (wk_not h), if_neg (fun e => e.2 h2), if_neg (fun e => h3 e.2), if_neg (fun e => e (by rw [eq_of_beq h1]; simp))]
theorem wk_name {f : Nat} {c : WK} {y : Str} (h : (y != Str.ofString "/") = false) (h1 : (c.hand == Str.ofString "..") = false) (h2 : c.hand ∉ [Str.ofString "", Str.ofString ".", Str.ofString ".."]) : wkStep f c y = { c with names := c.names ++ [c.hand], hand := Str.ofString "", last := c.hand } := by
  unfold wkStep; rw [if_neg (wk_not h), if_neg (fun e => by rw [h1] at e; exact Bool.noConfusion e.1), if_neg (fun e => by rw [h1] at e; exact Bool.noConfusion e.1), if_pos h2]
theorem wk_skip {f : Nat} {c : WK} {y : Str} (h : (y != Str.ofString "/") = false) (h1 : (c.hand == Str.ofString "..") = false) (h2 : c.hand ∈ [Str.ofString "", Str.ofString ".", Str.ofString ".."]) : wkStep f c y = { c with hand := Str.ofString "", last := c.hand } := by
  unfold wkStep; rw [if_neg (wk_not h), if_neg (fun e => by rw [h1] at e; exact Bool.noConfusion e.1), if_neg (fun e => by rw [h1] at e; exact Bool.noConfusion e.1), if_neg (fun e => e h2)]
/-- what the walk holds is no longer than the signs taken -/
def WK.size (c : WK) : Nat := weight c.names + 3 * c.up + c.hand.length
theorem wk_size {f : Nat} {c : WK} {y : Str} (hy : y.length ≤ 1) : (wkStep f c y).size ≤ c.size + 1 := by
  have h0 : (Str.ofString "").length = 0 := by decide +kernel
  have h2 : (Str.ofString "..").length = 2 := by decide +kernel
  unfold wkStep WK.size
  split
  · show weight c.names + 3 * c.up + (c.hand ++ y).length ≤ _
    rw [Str.length_append]; lia
  · split
    · rename_i h
      have : weight c.names.dropLast ≤ weight c.names := by
        rcases List.eq_nil_or_concat c.names with e | ⟨r, q, e⟩
        · rw [e]; exact Nat.le_refl _
        · rw [e, List.concat_eq_append, List.dropLast_concat, weight_append]; lia
      show weight c.names.dropLast + 3 * c.up + (Str.ofString "").length ≤ _
      lia
    · split
      · rename_i h
        have h1 : c.hand.length = 2 := by rw [eq_of_beq h.1, h2]
        show weight c.names + 3 * (c.up + 1) + (Str.ofString "").length ≤ _
        lia
      · split
        · show weight (c.names ++ [c.hand]) + 3 * c.up + (Str.ofString "").length ≤ _
          rw [weight_append, weight_one]; lia
        · show weight c.names + 3 * c.up + (Str.ofString "").length ≤ _
          lia
theorem wk_sizes {f : Nat} : ∀ (xs : List Str) (c : WK), (∀ y ∈ xs, y.length ≤ 1) → (xs.foldl (wkStep f) c).size ≤ c.size + xs.length
  | [], c, _ => Nat.le_refl _
  | y :: xs, c, h => by
    have h1 := wk_sizes (f := f) xs (wkStep f c y) fun z hz => h z (.tail _ hz)
    have h2 := wk_size (f := f) (c := c) (h y (.head _))
    rw [List.foldl_cons, List.length_cons]
    lia
theorem wk_take {f : Nat} {c : WK} {lx : List (Str × Tok)} {i : Nat} {y : Str} {u : Tok} (h : lx[i]? = some (y, u)) (hc : c = ((lx.take i).map (·.1)).foldl (wkStep f) wk0) : wkStep f c y = ((lx.take (i + 1)).map (·.1)).foldl (wkStep f) wk0 := by
  rw [List.take_add_one, h, hc]; simp
theorem news_41 {h₀ h : Heap} {L : Addr} {a b c d : Addr × Obj} (N : News h₀ L h [a, b, c, d]) : News h₀ L h [d, a] := fun p hp => N p (by
  rcases List.mem_cons.mp hp with rfl | hp
  · exact .tail _ (.tail _ (.tail _ (.head _)))
  · rw [List.mem_singleton.mp hp]; exact .head _)
/-- the loop over the signs -/
def WkJ (f : Nat) (lx : List (Str × Tok)) (ac : Addr) (kc : Nat) (m₀ : Str → Option Value) (i : Nat) (m : Str → Option Value) (nx : List (Addr × Obj)) : Prop :=
  ∃ (c : WK) (ln : List (Str × Tok)) (an : Addr) (kn : Nat) (t1 t3 : Tok) (lo : Option Value), nx = [(an, W.listOf (strValues ln).toArray kn), (ac, W.listOf (strValues lx).toArray kc)] ∧ ln.map (·.1) = c.names ∧ c = ((lx.take i).map (·.1)).foldl (wkStep f) wk0 ∧
    m (Str.ofString "up") = some (.int c.up t1) ∧ m (Str.ofString "names") = some (.ref an) ∧ m (Str.ofString "hand") = some (.str c.hand t3) ∧ m (Str.ofString "last") = lo ∧
    ((∀ q ∈ lx.take i, q.1 ≠ Str.ofString "/") ∨ ∃ t, lo = some (.str c.last t)) ∧
    ∀ z, z ≠ Str.ofString "sign" → z ≠ Str.ofString "up" → z ≠ Str.ofString "names" → z ≠ Str.ofString "hand" → z ≠ Str.ofString "last" → m z = m₀ z
theorem wk_fr {h₀ h : Heap} {L : Addr} {m₁ m₀ : Str → Option Value} {v lo : Option Value} {a b d : Value} (F : Fr h₀ L h (fun y => if y = Str.ofString "sign" then v else m₁ y))
    (e1 : m₁ (Str.ofString "up") = some a) (e2 : m₁ (Str.ofString "names") = some b) (e3 : m₁ (Str.ofString "hand") = some d) (e4 : m₁ (Str.ofString "last") = lo)
    (ho : ∀ z, z ≠ Str.ofString "sign" → z ≠ Str.ofString "up" → z ≠ Str.ofString "names" → z ≠ Str.ofString "hand" → z ≠ Str.ofString "last" → m₁ z = m₀ z) :
    Fr h₀ L h (fun y => if y = Str.ofString "sign" then v else if y = Str.ofString "up" then some a else if y = Str.ofString "names" then some b else if y = Str.ofString "hand" then some d else if y = Str.ofString "last" then lo else m₀ y) := by
  have e : (fun y => if y = Str.ofString "sign" then v else if y = Str.ofString "up" then some a else if y = Str.ofString "names" then some b else if y = Str.ofString "hand" then some d else if y = Str.ofString "last" then lo else m₀ y) = fun y => if y = Str.ofString "sign" then v else m₁ y := by
    funext z
    by_cases z0 : z = Str.ofString "sign"
    · rw [if_pos z0, if_pos z0]
    rw [if_neg z0, if_neg z0]
    by_cases z1 : z = Str.ofString "up"
    · rw [if_pos z1, z1, e1]
    rw [if_neg z1]
    by_cases z2 : z = Str.ofString "names"
    · rw [if_pos z2, z2, e2]
    rw [if_neg z2]
    by_cases z3 : z = Str.ofString "hand"
    · rw [if_pos z3, z3, e3]
    rw [if_neg z3]
    by_cases z4 : z = Str.ofString "last"
    · rw [if_pos z4, z4, e4]
    rw [if_neg z4, ho z z0 z1 z2 z3 z4]
  rw [e]; exact F
theorem wk_fr2 {h₀ h : Heap} {L : Addr} {m₁ m₀ : Str → Option Value} {lo : Option Value} {a b d : Value} (F : Fr h₀ L h m₁)
    (e1 : m₁ (Str.ofString "up") = some a) (e2 : m₁ (Str.ofString "names") = some b) (e3 : m₁ (Str.ofString "hand") = some d) (e4 : m₁ (Str.ofString "last") = lo)
    (ho : ∀ z, z ≠ Str.ofString "sign" → z ≠ Str.ofString "up" → z ≠ Str.ofString "names" → z ≠ Str.ofString "hand" → z ≠ Str.ofString "last" → m₁ z = m₀ z) :
    Fr h₀ L h (fun y => if y = Str.ofString "sign" then m₁ (Str.ofString "sign") else if y = Str.ofString "up" then some a else if y = Str.ofString "names" then some b else if y = Str.ofString "hand" then some d else if y = Str.ofString "last" then lo else m₀ y) := by
  have e : (fun y => if y = Str.ofString "sign" then m₁ (Str.ofString "sign") else m₁ y) = m₁ := by
    funext z
    by_cases z0 : z = Str.ofString "sign"
    · rw [if_pos z0, z0]
    · rw [if_neg z0]
  exact wk_fr (v := m₁ (Str.ofString "sign")) (by rw [e]; exact F) e1 e2 e3 e4 ho
theorem wk_bound {f : Nat} {xs : List Str} {n : Nat} (h : ∀ y ∈ xs, y.length ≤ 1) (hn : xs.length ≤ n) {c : WK} (hc : c = xs.foldl (wkStep f) wk0) : c.names.length ≤ n ∧ c.up * 3 + weight c.names ≤ n ∧ c.hand.length ≤ n := by
  have h1 := wk_sizes (f := f) xs wk0 h
  have h2 : wk0.size = 0 := by decide +kernel
  rw [← hc, h2] at h1
  unfold WK.size at h1
  unfold weight at h1 ⊢
  lia
theorem wk_small {l : List (Str × Tok)} {f : Nat} {t : Tok} (h1 : ∀ q ∈ l, q.1.length ≤ 1) : ∀ q ∈ List.drop f l ++ [(Str.ofString "/", t)], q.1.length ≤ 1 := by
  intro q hq
  rcases List.mem_append.mp hq with hq | hq
  · exact h1 q (List.mem_of_mem_drop hq)
  · rw [List.mem_singleton.mp hq]; exact Nat.le_of_eq (show (Str.ofString "/").length = 1 by decide +kernel)
theorem wk_smalls {l : List (Str × Tok)} {f : Nat} {t : Tok} (h1 : ∀ q ∈ l, q.1.length ≤ 1) (i : Nat) : ∀ y ∈ ((List.drop f l ++ [(Str.ofString "/", t)]).take i).map (·.1), y.length ≤ 1 := by
  intro y hy
  obtain ⟨q, hq, rfl⟩ := List.mem_map.mp hy
  exact wk_small h1 q (List.mem_of_mem_take hq)
theorem wk_len {l : List (Str × Tok)} {f : Nat} {t : Tok} (hz : l.length ≤ 5000) (i : Nat) : (((List.drop f l ++ [(Str.ofString "/", t)]).take i).map (·.1)).length ≤ 5001 := by
  rw [List.length_map, List.length_take, List.length_append, List.length_drop, List.length_singleton]; lia
theorem news_pick3 {h₀ h : Heap} {L : Addr} {a b c : Addr × Obj} {news : List (Addr × Obj)} (N : News h₀ L h news) (ha : a ∈ news) (hb : b ∈ news) (hc : c ∈ news) : News h₀ L h [a, b, c] := fun p hp => N p (by
  rcases List.mem_cons.mp hp with rfl | hp
  · exact ha
  rcases List.mem_cons.mp hp with rfl | hp
  · exact hb
  · rw [List.mem_singleton.mp hp]; exact hc)
theorem pick_new {h₀ h : Heap} {L b I ac : Addr} {ob oI oc : Obj} {news : List (Addr × Obj)} (N : News h₀ L h ((b, ob) :: news)) (hI : (I, oI) ∈ (b, ob) :: news) (hc : (ac, oc) ∈ (b, ob) :: news) : News h₀ L h [(I, oI), (b, ob), (ac, oc)] := news_pick3 N hI (.head _) hc
theorem wk_in {a b c y : Str} (h : ([a, b, c].any fun x => x == y) = true) : y ∈ [a, b, c] := by
  obtain ⟨x, hx, he⟩ := List.any_eq_true.mp h
  rw [← eq_of_beq he]; exact hx
theorem wk_out {a b c y : Str} (h : ([a, b, c].any fun x => x == y) = false) : y ∉ [a, b, c] := fun hy => by
  have : ([a, b, c].any fun x => x == y) = true := List.any_eq_true.mpr ⟨y, hy, by simp⟩
  rw [this] at h; cases h
theorem wk_last {lx : List (Str × Tok)} {i : Nat} {y : Str} {u : Tok} {P : Prop} (hyu : lx[i]? = some (y, u)) (hy : (y != Str.ofString "/") = true) (h : (∀ q ∈ lx.take i, q.1 ≠ Str.ofString "/") ∨ P) : (∀ q ∈ lx.take (i + 1), q.1 ≠ Str.ofString "/") ∨ P := by
  refine h.imp_left fun h q hq => ?_
  rw [List.take_add_one, hyu] at hq
  rcases List.mem_append.mp hq with hq | hq
  · exact h q hq
  · rw [List.mem_singleton.mp hq]; intro e; rw [show y = Str.ofString "/" from e] at hy; simp at hy
theorem wk_weight {c : WK} {ln : List (Str × Tok)} {t : Tok} (hln : ln.map (·.1) = c.names) (h : c.up * 3 + weight c.names ≤ 5001) : weight ((List.replicate c.up (Str.ofString "..", t) ++ ln).map (·.1)) ≤ 2000000 := by
  have h2 : (Str.ofString "..").length = 2 := by decide +kernel
  have e : ∀ n : Nat, weight (List.replicate n (Str.ofString "..")) = n * 3 := by
    intro n; unfold weight; simp [h2]; lia
  rw [List.map_append, weight_append, hln, List.map_replicate, e]; lia
theorem walk_end {h h' : Heap} {L b : Addr} {rest : List (Addr × Obj)} {x y : Str} {t u : Tok} {xs : List Str} (N : News h L h' ((b, { cls := .type "tuple", data := .seq #[.str x t, .str y u] }) :: rest)) (e : walkS xs = (x, y)) :
    ∃ b' t1 t2, Value.ref b = .ref b' ∧ h.get? b' = none ∧ h'.get? b' = some ({ cls := .type "tuple", data := .seq #[.str (walkS xs).1 t1, .str (walkS xs).2 t2] } : Obj) := by
  rw [e]
  exact ⟨b, t, u, rfl, N.fresh (.head _), N.get (.head _)⟩
section
variable {xs : List Str} {c : WK} {f : Nat}
theorem place1 (hC : walkC xs = c) (hf : frontN xs = f) (h : (f : Int) < 3) : walkPlace xs = Txt.mul (Str.ofString "/") f ++ Txt.join (Str.ofString "/") (List.replicate c.up (Str.ofString "..") ++ c.names) := by
  unfold walkPlace; rw [hC, hf, if_pos (by lia)]
theorem place2 (hC : walkC xs = c) (hf : frontN xs = f) (h : ¬ (f : Int) < 3) : walkPlace xs = Str.ofString "/" ++ Txt.join (Str.ofString "/") (List.replicate c.up (Str.ofString "..") ++ c.names) := by
  unfold walkPlace; rw [hC, hf, if_neg (by lia)]
theorem walk1 {P : Str} (hC : walkC xs = c) (hP : walkPlace xs = P) (h : (P != Str.ofString "") = true) : walkS xs = (P, c.last) := by
  unfold walkS; rw [hP, hC, if_pos h]
theorem walk2 {P : Str} (hC : walkC xs = c) (hP : walkPlace xs = P) (h : (P != Str.ofString "") = false) : walkS xs = (Str.ofString ".", c.last) := by
  unfold walkS; rw [hP, hC, if_neg (by rw [h]; decide)]
end
theorem walkC_of {l : List (Str × Tok)} {t : Tok} {c : WK} {f : Nat} (hf : frontN (l.map (·.1)) = f) (hc : c = ((List.drop f l ++ [(Str.ofString "/", t)]).map (·.1)).foldl (wkStep f) wk0) : walkC (l.map (·.1)) = c := by
  rw [hc]; unfold walkC; rw [hf, List.map_append, List.map_drop]; rfl
theorem loop_wk {prog : Program} {w : World} {A : Around} {E : Value → Shared → Prop} {s : Shared} {env : Env} {h₀ : Heap} {x : Str} {body : List Stmt} {Q : Flow → Shared → Prop} {f kn kc : Nat} {lx : List (Str × Tok)} {an ac : Addr} {m₀ : Str → Option Value}
    (hh : A.handled = none) (F : Fr h₀ env.locals s.heap m₀) (N : News h₀ env.locals s.heap [(an, W.listOf #[] kn), (ac, W.listOf (strValues lx).toArray kc)])
    (hj : WkJ f lx ac kc m₀ 0 m₀ [(an, W.listOf #[] kn), (ac, W.listOf (strValues lx).toArray kc)])
    (turn : ∀ i v m₁ nx h tk I oI, (strValues lx)[i]? = some v → WkJ f lx ac kc m₀ i m₁ nx → (∀ p ∈ nx, p.1 ≠ I) → Fr h₀ env.locals h (fun y => if y = x then some v else m₁ y) → News h₀ env.locals h ((I, oI) :: nx) →
      wpAny (model prog w) A (execs body env) (TurnEnd h₀ env.locals (WkJ f lx ac kc m₀ (i + 1)) I oI { s with heap := h, toks := tk } Q) E { s with heap := h, toks := tk })
    (done : ∀ m₁ nx h tk, WkJ f lx ac kc m₀ (strValues lx).length m₁ nx → Fr h₀ env.locals h m₁ → News h₀ env.locals h nx → Q .next { s with heap := h, toks := tk }) :
    wpAny (model prog w) A (pyIter (.ref ac)) (fun it s₂ => LoopAtV prog w A h₀ env x body Q E it s₂) E s :=
  loop_led (WkJ f lx ac kc m₀) hh (.tail _ (.head _)) (by rintro i m nx ⟨c, ln, an, kn, _, _, _, rfl, _⟩; exact .tail _ (.head _)) F N hj turn done
/-- the loop over the front -/
def FrontJ (l : List (Str × Tok)) (m₀ : Str → Option Value) (k : Nat) (m : Str → Option Value) (nx : List (Addr × Obj)) : Prop :=
  nx = [] ∧ (∃ (f : Nat) (t : Tok), m (Str.ofString "front") = some (.int f t) ∧ k + f = l.length ∧ ∀ j, j < f → (l.map (·.1))[j]? = some (Str.ofString "/")) ∧ ∀ z, z ≠ Str.ofString "front" → m z = m₀ z
def FrontTest (l : List (Str × Tok)) (f : Nat) (s : Shared) (h : Heap) (b : Bool) (s₂ : Shared) : Prop :=
  (∃ tk', s₂ = { s with heap := h, toks := tk' }) ∧ (b = true → ∃ q, l[f]? = some q ∧ q.1 = Str.ofString "/") ∧ (b = false → (l.map (·.1))[f]? ≠ some (Str.ofString "/"))
section
set_option maxHeartbeats 4000000 in
theorem lwalk_tells (w : World) (mean : ExcName → Option Value) (mg mb : Str → Option Value) (a1 : Addr) (l : List (Str × Tok)) (hz : l.length ≤ 5000) (h1 : ∀ q ∈ l, q.1.length ≤ 1) :
    Tell w mean mg mb 187 6 64 [.ref a1] (fun s => s.heap.IsList a1 (strValues l).toArray)
      (fun h h' v => ∃ b t1 t2, v = .ref b ∧ h.get? b = none ∧ h'.get? b = some ({ cls := .type "tuple", data := .seq #[.str (walkS (l.map (·.1))).1 t1, .str (walkS (l.map (·.1))).2 t2] } : Obj)) := by
  k_with_none
  k_with "call builtin:issubclass" => (k_here; (with_reducible show wpAny _ _ (call (Value.builtin "issubclass") [Value.type "str", Value.ref _]) _ _ _); k_dflt (refine' Mine.issub_tuple (by exact News.get (by k_asm) (by k_mem)) ?_; k_whole); intro tk')
  k_with "call ref" => (k_here; (with_reducible show wpAny _ _ (call (Value.ref 94) [Value.str _ _]) _ _ _); k_dflt (k_call_by "use" (Mine.fspath_tells _ _ _ _ _ _)); (case kp => trivial); intro v' h' tk' F' N' st' r'; subst r'; clear st'; (try dsimp only); (try k_fold); (try k_sweep))
  k_with "call ref" => (k_here; (with_reducible show wpAny _ _ (call (Value.ref 108) [Value.str _ _]) _ _ _); k_dflt (k_call_by "use" (Mine.getsep_tells _ _ _ _ _ _)); (case kp => trivial); intro v' h' tk' F' N' st' r'; (try dsimp only at r'); obtain ⟨t', r'⟩ := r'; subst r'; clear st'; (try dsimp only); (try k_fold); (try k_sweep))
  k_with "call ref" => (k_here; (with_reducible show wpAny _ _ (call (Value.ref 122) [Value.str _ _]) _ _ _); k_dflt (k_call_by "new" (Mine.splitroot_tells _ _ _ _ _ _ (by first | assumption | lia))); (case kp => trivial); intro v' h' tk' F' N' nw' r'; (try dsimp only at r'); obtain ⟨a', t1', t2', t3', r', r2', r3'⟩ := r'; subst r'; (replace N' := nw' _ _ r2' r3'); clear nw' r2' r3'; (try dsimp only); (try k_fold); (try k_sweep))
  k_with "storeName" => (k_here; k_dflt (refine' Mine.store_put (by k_asm) (by k_asm) ?_ (by rfl) (by rfl); k_whole; intro h' F' N'; (try k_sweep)))
  k_with "mine list" => first | with_reducible assumption | exact News.isList (by k_asm) (by k_mem) | exact Fr.lst (by k_asm) (by assumption)
  k_with "call builtin:len" => (k_here; (with_reducible show wpAny _ _ (call (Value.builtin _) [Value.ref _]) _ _ _); k_dflt (refine' Mine.len_strs (by walk_at "mine list") (by lia) ?_; k_whole))
  k_with "subscriptTail" => (k_here; (with_reducible show wpAny _ _ (subscriptTail _ _ (Value.ref _) (Value.int _ _)) _ _ _); k_dflt (refine' Mine.item_at (by walk_at "mine list") (by lia) (by lia) (by simp only [Int.toNat_natCast]; assumption) ?_; k_whole))
  k_with "subscriptTail" => (k_here; (with_reducible show wpAny _ _ (subscriptTail _ _ (Value.ref _) (Value.ref _)) _ _ _); k_dflt (first | (refine' Mine.drop_strs (s := ⟨_, _, _, _, _⟩) (by rfl) (by k_asm) (by k_asm) (by walk_at "mine list") (by lia) ?_; k_whole) | (refine' Mine.butlast_strs (s := ⟨_, _, _, _, _⟩) (by rfl) (by k_asm) (by k_asm) (by walk_at "mine list") (by lia) ?_; k_whole)); intro c' h' F' N' l1; (try k_lt l1); (try k_sweep))
  k_with "binaryOp Add" => (k_here; (with_reducible show wpAny _ _ (binaryOp _ (Value.ref _) (Value.ref _)) _ _ _); k_dflt (first | (refine' Mine.cat_strs (l' := [(Str.ofString "/", _)]) (by k_asm) (by k_asm) (by walk_at "mine list") (by walk_at "mine list") (by simp only [List.length_singleton, List.length_drop]; lia) ?_; k_whole) | (refine' Mine.cat_strs (l' := [(_, _)]) (by k_asm) (by k_asm) (by walk_at "mine list") (by walk_at "mine list") (by simp only [List.length_singleton, List.length_drop]; lia) ?_; k_whole) | (refine' Mine.cat_strs (by k_asm) (by k_asm) (by walk_at "mine list") (by walk_at "mine list") (by simp only [List.length_replicate]; lia) ?_; k_whole)); intro c' h' F' N' l1; (try k_lt l1); (try k_sweep))
  k_with "compareOp NotEq ref ref" => (k_here; (with_reducible show wpAny _ _ (compareOp CmpOp.NotEq (Value.ref _) (Value.ref _)) _ _ _); k_dflt (refine' Mine.ne_strs (l' := []) (by walk_at "mine list") (by walk_at "mine list") (by ktr_units) ?_; k_whole))
  k_with "binaryOp Mult ref int" => (k_here; (with_reducible show wpAny _ _ (binaryOp Operator.Mult (Value.ref _) (Value.int _ _)) _ _ _); k_dflt (refine' Mine.mul_strs (x := Str.ofString "..") (by rfl) (by k_asm) (by k_asm) (by exact News.get (by k_asm) (by k_mem)) (by lia) ?_; k_whole); intro c' h' F' N' l1; (try k_lt l1); (try k_sweep))
  k_with "call builtin:str.join" => (k_here; (with_reducible show wpAny _ _ (call (Value.builtin "str.join") [Value.str _ _, Value.ref _]) _ _ _); k_dflt (refine' SC.join (by exact News.isList (by k_asm) (by k_mem)) rfl (by (rw [hmap]; exact Mine.join_ok hw)) ?_; k_whole); intro t' k'; (try rw [hmap]))
  k_with "exec For" => (k_here; (rename Fr _ _ _ _ => lF'); (with_unfolding_all refine' For_invVF lF' (by exact rfl) (by exact rfl) ?_; k_whole))
  k_with "exec While BoolOp cons nil" => refine Mine.halt ?_
  unfold Tell
  k_fill
  intro dp un gd cn cs a ccd cl outer A₀ base h₀ L m s Q E B F X Tp hk hp hdp hun hret
  have N : News h₀ L s.heap [] := News.nil
  refine wpAny_call ?_
  k_dflt (refine' Mine.enter0 ?k1 ?k2 ?k3 ?k5 ?kA ?kF ?kK ?k6 ?k7 ?k8 ?k9 ?kB ?_ ?c2 ?c3 ?c4 ?c5; (case kA => exact rfl); (case kF => exact rfl); (case kK => assumption); (case k1 => k_asm); (case k2 => k_asm); (case k3 => k_asm); (case k5 => k_asm); (case k6 => k_is); (case k7 => k_is); (case k8 => ktr_room); (case k9 => first | exact BindsTo.of_eq rfl | exact binds_K (by k_in) rfl (by k_is) rfl rfl rfl); (case c5 => decide); (case kB => exact locs rfl); (case c2 => exact rfl); (case c3 => exact rfl); (case c4 => exact rfl); k_whole; intro L' h' F' N' B' X' T'; (try dsimp only); (try k_lift B'); (try k_fold))
  replace F' : Fr _ _ _ (Mine.put (Str.ofString "signs") (.ref a1) fun _ => none) := Mine.fr_puts [(Str.ofString "signs", .ref a1)] F'
  k_steps
  refine go_on ?_
  rename Fr _ _ _ _ => F1
  rename News _ _ _ [] => N1
  with_unfolding_all refine While_inv2 (FrontJ l _) (n₀ := l.length) F1 N1 ⟨rfl, ⟨0, _, rfl, rfl, fun _ h => absurd h (Nat.not_lt_zero _)⟩, fun _ _ => rfl⟩ ?_
  rintro k m₁ nx h tk F2 N2 ⟨rfl, ⟨f, t1, e1, hkf, hall⟩, ho⟩
  replace F2 := fr_over [(Str.ofString "front", _)] F2 (all1 e1) (fun z hz => ho z (hz _ (.head _)))
  simp only [offs] at F2
  have H1 : s.heap.IsList a1 (strValues l).toArray := hp
  have hfl : f ≤ l.length := by lia
  refine wpAny_mono (Q := FrontTest l f s h) ?_ (fun b s₂ hb => ?_) (fun _ _ e => e)
  · rcases hq : l[f]? with _ | q
    · have hfl : l.length ≤ f := List.getElem?_eq_none_iff.mp hq
      have hm : (l.map (·.1))[f]? ≠ some (Str.ofString "/") := by rw [List.getElem?_map, hq]; exact fun e => nomatch e
      k_steps
      all_goals exact ⟨⟨_, rfl⟩, fun e => Bool.noConfusion e, fun _ => hm⟩
    · have hfl : f < l.length := by have := List.getElem?_eq_some_iff.mp hq; exact this.1
      k_steps
      · rename (q.1 == _) = true => hq1
        exact ⟨⟨_, rfl⟩, fun _ => ⟨q, hq, eq_of_beq hq1⟩, fun e => Bool.noConfusion e⟩
      · rename (q.1 == _) = false => hq1
        exact ⟨⟨_, rfl⟩, fun e => Bool.noConfusion e, fun _ e => by rw [List.getElem?_map, hq] at e; have h9 : q.1 = Str.ofString "/" := Option.some.inj e; rw [h9] at hq1; simp at hq1⟩
  · obtain ⟨⟨tk2, rfl⟩, hb1, hb2⟩ := hb
    cases b with
    | true =>
      obtain ⟨q, hq, hq1⟩ := hb1 rfl
      have hfl : f < l.length := by have := List.getElem?_eq_some_iff.mp hq; exact this.1
      rw [if_pos rfl]
      k_steps
      refine ⟨_, _, _, _, k - 1, rfl, by assumption, by assumption, by lia, rfl, ⟨f + 1, _, rfl, by lia, fun j hj => ?_⟩, fun z z1 => by simp only [Mine.put, if_neg z1]⟩
      by_cases hjf : j = f
      · rw [hjf, List.getElem?_map, hq, ← hq1]; rfl
      · exact hall j (by lia)
    | false =>
      have hfr := frontN_of hall (hb2 rfl)
      clear hb1 hb2
      rw [if_neg (fun e => nomatch e)]
      k_steps
      rename Fr _ _ _ _ => F3
      rename News _ _ _ (_ :: _ :: _) => N3
      have N4 := news_41 N3
      refine' loop_wk (f := f) rfl F3 N4 ?hj ?ht ?hd
      case hj => exact ⟨wk0, [], _, _, _, _, _, rfl, rfl, rfl, rfl, rfl, rfl, rfl, .inl (fun _ hp => nomatch hp), fun _ _ _ _ _ _ => rfl⟩
      case ht =>
        rintro i v m₁ nx h tk I oI hv ⟨c, ln, an, kn, t1, t3, lo, rfl, hln, hc, e1, e2, e3, e4, hl, ho⟩ hnI F3 N3
        replace F3 := wk_fr F3 e1 e2 e3 e4 ho
        obtain ⟨y, u, hyu, rfl⟩ := strValues_get hv
        obtain ⟨b1, b2, b3⟩ := wk_bound (wk_smalls h1 i) (wk_len hz i) hc
        have hy1 : y.length ≤ 1 := wk_small h1 (y, u) (List.mem_of_getElem? hyu)
        have b4 : ln.length ≤ 5001 := by rw [← List.length_map (fun (q : Str × Tok) => q.1) (as := ln), hln]; exact b1
        have hI1 := neN (hnI _ (.head _))
        have hI2 := neN (hnI _ (.tail _ (.head _)))
        dsimp only at hI1 hI2
        have n1 : List.map (fun x : Str × Tok => x.1) ln = List.map (fun x => x.1) ([] : List (Str × Tok)) → c.names = [] := fun e => by rw [← hln]; exact e
        have n2 : List.map (fun x : Str × Tok => x.1) ln ≠ List.map (fun x => x.1) ([] : List (Str × Tok)) → c.names ≠ [] := fun e => by rw [← hln]; exact e
        k_steps
        all_goals first
          | exact turn_end [(an, W.listOf (strValues ln).toArray kn), (_, _)] (by assumption) (news_pick3 (by assumption) (by k_mem) (by k_mem) (by k_mem)) (ne_two hI1 hI2) ⟨{ c with hand := c.hand ++ y }, ln, an, kn, _, _, _, rfl, hln, (wk_sign (by assumption)).symm.trans (wk_take hyu hc), rfl, rfl, rfl, rfl, wk_last hyu (by assumption) hl, fun z z1 z2 z3 z4 z5 => by simp only [Mine.put, if_neg z1, if_neg z2, if_neg z3, if_neg z4, if_neg z5]⟩
          | exact turn_end [(an, W.listOf (strValues ln).toArray kn), (_, _)] (by assumption) (news_pick3 (by assumption) (by k_mem) (by k_mem) (by k_mem)) (ne_two hI1 hI2) ⟨{ c with up := c.up + 1, hand := Str.ofString "", last := c.hand }, ln, an, kn, _, _, _, rfl, hln, (wk_up (by assumption) (by assumption) (n1 (by assumption)) (by lia)).symm.trans (wk_take hyu hc), rfl, rfl, rfl, rfl, .inr ⟨_, rfl⟩, fun z z1 z2 z3 z4 z5 => by simp only [Mine.put, if_neg z1, if_neg z2, if_neg z3, if_neg z4, if_neg z5]⟩
          | exact turn_end [(an, W.listOf (strValues ln).toArray kn), (_, _)] (by assumption) (news_pick3 (by assumption) (by k_mem) (by k_mem) (by k_mem)) (ne_two hI1 hI2) ⟨{ c with hand := Str.ofString "", last := c.hand }, ln, an, kn, _, _, _, rfl, hln, (wk_lost (by assumption) (by assumption) (n1 (by assumption)) (by lia)).symm.trans (wk_take hyu hc), rfl, rfl, rfl, rfl, .inr ⟨_, rfl⟩, fun z z1 z2 z3 z4 z5 => by simp only [Mine.put, if_neg z1, if_neg z2, if_neg z3, if_neg z4, if_neg z5]⟩
          | exact turn_end [(an, W.listOf (strValues ln).toArray kn), (_, _)] (by assumption) (news_pick3 (by assumption) (by k_mem) (by k_mem) (by k_mem)) (ne_two hI1 hI2) ⟨{ c with hand := Str.ofString "", last := c.hand }, ln, an, kn, _, _, _, rfl, hln, (wk_skip (by assumption) (by assumption) (wk_in (by assumption))).symm.trans (wk_take hyu hc), rfl, rfl, rfl, rfl, .inr ⟨_, rfl⟩, fun z z1 z2 z3 z4 z5 => by simp only [Mine.put, if_neg z1, if_neg z2, if_neg z3, if_neg z4, if_neg z5]⟩
          | (exfalso; rename (c.hand == _) = true => q1; rename List.any _ _ = false => q2; exact wk_out q2 (by rw [eq_of_beq q1]; simp); done)
          | (rename News _ _ _ ((_, W.listOf (strValues ln.dropLast).toArray 0) :: _) => N9; exact turn_end [(_, _), (_, _)] (by assumption) (pick_new N9 (by k_mem) (by k_mem)) (ne_two (by exact Nat.ne_of_gt (by lia)) hI2) ⟨{ c with names := c.names.dropLast, hand := Str.ofString "", last := c.hand }, ln.dropLast, _, _, _, _, _, rfl, by rw [List.map_dropLast, hln], (wk_pop (by assumption) (by assumption) (n2 (by assumption))).symm.trans (wk_take hyu hc), rfl, rfl, rfl, rfl, .inr ⟨_, rfl⟩, fun z z1 z2 z3 z4 z5 => by simp only [Mine.put, if_neg z1, if_neg z2, if_neg z3, if_neg z4, if_neg z5]⟩)
          | (rename News _ _ _ ((_, W.listOf (strValues (ln ++ [(c.hand, t3)])).toArray 0) :: _) => N9; exact turn_end [(_, _), (_, _)] (by assumption) (pick_new N9 (by k_mem) (by k_mem)) (ne_two (by exact Nat.ne_of_gt (by lia)) hI2) ⟨{ c with names := c.names ++ [c.hand], hand := Str.ofString "", last := c.hand }, ln ++ [(c.hand, t3)], _, _, _, _, _, rfl, by rw [List.map_append, hln]; rfl, (wk_name (by assumption) (by assumption) (wk_out (by assumption))).symm.trans (wk_take hyu hc), rfl, rfl, rfl, rfl, .inr ⟨_, rfl⟩, fun z z1 z2 z3 z4 z5 => by simp only [Mine.put, if_neg z1, if_neg z2, if_neg z3, if_neg z4, if_neg z5]⟩)
      case hd =>
        rintro m₁ nx h tk ⟨c, ln, an, kn, t1, t3, lo, rfl, hln, hc, e1, e2, e3, e4, hl, ho⟩ F3 N3
        obtain ⟨b1, b2, b3⟩ := wk_bound (wk_smalls h1 _) (wk_len hz _) hc
        have b4 : ln.length ≤ 5001 := by rw [← List.length_map (fun (q : Str × Tok) => q.1) (as := ln), hln]; exact b1
        rw [strValues_len, List.take_length] at hc hl
        obtain ⟨t4, hlo⟩ : ∃ t, lo = some (.str c.last t) := hl.resolve_left fun q => q (_, _) (List.mem_append_right _ (.head _)) rfl
        subst hlo
        replace F3 := wk_fr2 F3 e1 e2 e3 e4 ho
        have hup : c.up ≤ 2000000 := by lia
        have hmap : ∀ t : Tok, List.map (fun x : Str × Tok => x.1) (List.replicate c.up (Str.ofString "..", t) ++ ln) = List.replicate c.up (Str.ofString "..") ++ c.names := fun t => by rw [List.map_append, List.map_replicate, hln]
        have hw := wk_weight (t := 0) hln b2
        rw [hmap] at hw
        have hjl := txt_join_len (List.replicate c.up (Str.ofString "..") ++ c.names)
        have hC := walkC_of hfr hc
        k_steps
        all_goals first
          | exact hret _ _ _ (Fr.keep (by assumption)) (walk_end (by assumption) (walk1 hC (place1 hC hfr (by assumption)) (by assumption)))
          | exact hret _ _ _ (Fr.keep (by assumption)) (walk_end (by assumption) (walk2 hC (place1 hC hfr (by assumption)) (by assumption)))
          | exact hret _ _ _ (Fr.keep (by assumption)) (walk_end (by assumption) (walk1 hC (place2 hC hfr (by assumption)) (by assumption)))
          | exact hret _ _ _ (Fr.keep (by assumption)) (walk_end (by assumption) (walk2 hC (place2 hC hfr (by assumption)) (by assumption)))
end
end Mine

namespace Mine
/-- what _law_opened hands back -/
def opened (c : Str) : List (Str × Str) → List Str
  | [] => [c]
  | (k, v) :: r => if (k == c) = true then v.cps.toList.flatMap (fun d => opened ⟨#[d]⟩ r) else opened c r
theorem opened_skip {c : Str} : ∀ {T : List (Str × Str)} {i : Nat}, (∀ j, j < i → ∀ p, T[j]? = some p → (p.1 == c) = false) → opened c T = opened c (T.drop i)
  | [], i, _ => by simp
  | (k, v) :: r, 0, _ => by simp
  | (k, v) :: r, i + 1, h => by
    have h0 := h 0 (Nat.succ_pos _) (k, v) rfl
    rw [opened, if_neg (by rw [h0]; decide), List.drop_succ_cons]
    exact opened_skip fun j hj p hp => h (j + 1) (Nat.succ_lt_succ hj) p (by simpa using hp)
theorem opened_len {T : List (Str × Str)} (h : ∀ p ∈ T, p.2.length ≤ 5) : ∀ c : Str, (opened c T).length ≤ 5 ^ T.length := by
  induction T with
  | nil => intro c; exact Nat.le_refl _
  | cons p r ih =>
    obtain ⟨k, v⟩ := p
    intro c
    rw [opened]
    have hr : ∀ p ∈ r, p.2.length ≤ 5 := fun p hp => h p (.tail _ hp)
    split
    · have hv : v.cps.toList.length ≤ 5 := by have := h (k, v) (.head _); simpa [Str.length] using this
      have key : ∀ l : List Nat, (l.flatMap (fun d => opened ⟨#[d]⟩ r)).length ≤ l.length * 5 ^ r.length := by
        intro l
        induction l with
        | nil => simp
        | cons d l ihl =>
          have h1 := ih hr ⟨#[d]⟩
          rw [List.flatMap_cons, List.length_append, List.length_cons, Nat.succ_mul]; lia
      refine Nat.le_trans (key _) ?_
      rw [List.length_cons, Nat.pow_succ, Nat.mul_comm]
      exact Nat.mul_le_mul_left _ hv
    · refine Nat.le_trans (ih hr c) ?_
      rw [List.length_cons]
      exact Nat.pow_le_pow_right (by decide) (Nat.le_succ _)
/-- the entries, as they lie in the heap -/
def EntsAt (h : Heap) (vs : List Value) (T : List TE) : Prop := vs.length = T.length ∧ ∀ (j : Nat) (q : TE), T[j]? = some q → ∃ b : Addr, vs[j]? = some (.ref b) ∧ h.IsTuple b #[.str q.x q.t, .str q.y q.u]
theorem EntsAt.keep {h h' : Heap} {vs : List Value} {T : List TE} (e : EntsAt h vs T) (k : ∀ b o, h.get? b = some o → h'.get? b = some o) : EntsAt h' vs T :=
  ⟨e.1, fun j q hq => (e.2 j q hq).elim fun b h => ⟨b, h.1, h.2.at (k b)⟩⟩
abbrev EntsPre (a1 : Addr) (vs : List Value) (T : List TE) (s : Shared) : Prop := s.heap.IsList a1 vs.toArray ∧ EntsAt s.heap vs T
/-- a new list of texts -/
abbrev NewStrs (xs : List Str) (h h' : Heap) (v : Value) : Prop := ∃ b c l, v = .ref b ∧ h.get? b = none ∧ h'.get? b = some (W.listOf (strValues l).toArray c) ∧ l.map (·.1) = xs
theorem Tell.more {w : World} {mean : ExcName → Option Value} {mg mb : Str → Option Value} {f : Addr} {dd uu dd' uu' : Nat} {vs : List Value} {pre : Shared → Prop} {R : Heap → Heap → Value → Prop}
    (C : Tell w mean mg mb f dd uu vs pre R) (h1 : dd ≤ dd') (h2 : uu ≤ uu') : Tell w mean mg mb f dd' uu' vs pre R := by
  intro dp un gd cn cs a ccd cl outer A₀ base h₀ L m s Q E B F X Tp hk hp hdp hun hret
  exact C dp un gd cn cs a ccd cl outer A₀ base h₀ L m s Q E B F X Tp hk hp (by lia) (by lia) hret
section
variable {prog : Program} {w : World} {A : Around} {E : Value → Shared → Prop} {s : Shared} {env : Env} {h₀ : Heap} {x : Str} {body : List Stmt} {Q : Flow → Shared → Prop}
theorem loop_range {r : Addr} {a₀ b₀ : Int} {t₀ u₀ v₀ : Tok} {n : Nat} {m₀ : Str → Option Value} {nx₀ : List (Addr × Obj)} (J : Nat → (Str → Option Value) → List (Addr × Obj) → Prop)
    (hh : A.handled = none) (hr : IsRange s.heap r a₀ b₀ 1 t₀ u₀ v₀) (hsmall : Builtin.Range.small a₀ b₀ 1 = true) (hn : Builtin.Range.rangeSize a₀ b₀ 1 = (n : Int))
    (F : Fr h₀ env.locals s.heap m₀) (N : News h₀ env.locals s.heap nx₀) (hj : J 0 m₀ nx₀)
    (turn : ∀ i t m₁ nx h tk I oI, i < n → J i m₁ nx → (∀ p ∈ nx, p.1 ≠ I) → Fr h₀ env.locals h (fun y => if y = x then some (.int (a₀ + (i : Int)) t) else m₁ y) → News h₀ env.locals h ((I, oI) :: nx) →
      wpAny (model prog w) A (execs body env) (TurnEnd h₀ env.locals (J (i + 1)) I oI { s with heap := h, toks := tk } Q) E { s with heap := h, toks := tk })
    (done : ∀ m₁ nx h tk, J n m₁ nx → Fr h₀ env.locals h m₁ → News h₀ env.locals h nx → Q .next { s with heap := h, toks := tk }) :
    wpAny (model prog w) A (pyIter (.ref r)) (fun it s₂ => LoopAtV prog w A h₀ env x body Q E it s₂) E s := by
  refine wpAny_pyIter_range hr hsmall ?_
  have W : Walks prog w A s.heap.objs.size [s.heap.objs.size] [s.heap.objs.size] n (fun i v => i < n ∧ ∃ t, v = .int (a₀ + i * 1) t)
      (fun i h => IsRangeIter h s.heap.objs.size (a₀ + (i : Nat) * 1) ((n : Int) - (i : Nat)) 1) := (Walks.range hh _ a₀ 1 n).bound
  have hnew := next_is_new F
  refine loop_any J W (fun hm => absurd F.ns.lt ((List.mem_singleton.mp hm) ▸ Nat.lt_irrefl _)) hnew (fun i h st => ⟨_, st⟩) (fun b hb => .inl (List.mem_singleton.mp hb)) (by show IsRangeIter _ _ _ _ _; rw [hn]; simpa using Heap.get?_push_size _ rfl) (F.push _)
    (fun p hp => ⟨Heap.get?_push_of_some _ (N p hp).1, (N p hp).2⟩) (fun p hp => Nat.ne_of_lt (Heap.lt_size (N p hp).1)) hj (fun i v m₁ nx h tk oI hi hP hJ hne F₁ N₁ => ?_) done
  obtain ⟨_, t, rfl⟩ := hP
  rw [Int.mul_one] at F₁
  exact turn i t m₁ nx h tk _ oI hi hJ hne F₁ N₁
end
section
variable {prog : Program} {w : World} {A : Around} {E : Value → Shared → Prop} {s : Shared} {a b : Addr} {Q : Value → Shared → Prop}
theorem len_ents {vs : List Value} {T : List TE} (hl : s.heap.IsList a vs.toArray) (e : EntsAt s.heap vs T) (hz : T.length ≤ 2000000) (h : Q (.int T.length (s.toks + 1)) { s with toks := s.toks + 1 + 1 }) : wpAny (model prog w) A (call (.builtin "len") [.ref a]) Q E s := by
  have e : vs.toArray.size = T.length := by rw [List.size_toArray, e.1]
  exact call_len_list hl (by rw [e]; lia) (by rw [e]; exact h)
theorem item_ref {value slice : PySem.Expr} {k : Int} {u : Tok} {vs : List Value} (hl : s.heap.IsList a vs.toArray) (h0 : 0 ≤ k) (h1 : k < 2 ^ 63) (hq : vs[k.toNat]? = some (.ref b)) (h : Q (.ref b) s)
    (hs : subscripted slice false (.ref a) (.int k u) = operate [.ref a, .int k u] (getItem (.ref a) (.int k u)) := by with_unfolding_all rfl) :
    wpAny (model prog w) A (subscriptTail value slice (.ref a) (.int k u)) Q E s :=
  tail_any hl.typeIs slot_list_getitem.lookup (wpAny_getItem_list hl h0 h1 (by simp [hq]) h) hs
end
/-- the turns of the loop over the entries -/
def OpJ (x : Str) (T : List TE) (k : Nat) (m₀ : Str → Option Value) (i : Nat) (m : Str → Option Value) (nx : List (Addr × Obj)) : Prop :=
  nx = [] ∧ (∀ j, j < i → ∀ q, (T.drop k)[j]? = some q → (q.x == x) = false) ∧ ∀ z, z ≠ Str.ofString "i" → m z = m₀ z
section
variable {prog : Program} {w : World} {A : Around} {E : Value → Shared → Prop} {s : Shared} {env : Env} {h₀ : Heap} {body : List Stmt} {Q : Flow → Shared → Prop}
theorem loop_op {r : Addr} {t₀ u₀ v₀ : Tok} {k : Nat} {x : Str} {T : List TE} {m₀ : Str → Option Value}
    (hh : A.handled = none) (hr : IsRange s.heap r k (T.length : Int) 1 t₀ u₀ v₀) (hT : T.length ≤ 3) (hk : k ≤ T.length)
    (F : Fr h₀ env.locals s.heap m₀) (N : News h₀ env.locals s.heap [])
    (turn : ∀ (i : Nat) (t : Tok) (m₁ : Str → Option Value) (h : Heap) (tk : Nat) (I : Addr) (oI : Obj), i < T.length - k → (∀ j, j < i → ∀ q, (T.drop k)[j]? = some q → (q.x == x) = false) → Fr h₀ env.locals h (fun y => if y = Str.ofString "i" then some (.int ((k : Int) + (i : Int)) t) else m₀ y) → News h₀ env.locals h [(I, oI)] → (∀ z, z ≠ Str.ofString "i" → m₁ z = m₀ z) →
      wpAny (model prog w) A (execs body env) (TurnEnd h₀ env.locals (OpJ x T k m₀ (i + 1)) I oI { s with heap := h, toks := tk } Q) E { s with heap := h, toks := tk })
    (done : ∀ (m₁ : Str → Option Value) (h : Heap) (tk : Nat), (∀ j, j < T.length - k → ∀ q, (T.drop k)[j]? = some q → (q.x == x) = false) → (∀ z, z ≠ Str.ofString "i" → m₁ z = m₀ z) → Fr h₀ env.locals h (fun y => if y = Str.ofString "i" then m₁ (Str.ofString "i") else m₀ y) → News h₀ env.locals h [] → Q .next { s with heap := h, toks := tk }) :
    wpAny (model prog w) A (pyIter (.ref r)) (fun it s₂ => LoopAtV prog w A h₀ env (Str.ofString "i") body Q E it s₂) E s := by
  refine loop_range (n := T.length - k) (OpJ x T k m₀) hh hr ?_ ?_ F N ⟨rfl, fun _ h => absurd h (Nat.not_lt_zero _), fun _ _ => rfl⟩ ?_ ?_
  · exact small_one (by lia) (by lia) (by lia) (by lia)
  · rw [rangeSize_one]; split <;> lia
  · rintro i t m₁ nx h tk I oI hi ⟨rfl, h1, ho⟩ hne F₁ N₁
    refine turn i t m₁ h tk I oI hi h1 ?_ N₁ ho
    have := fr_offs [] F₁ (fun _ hp => nomatch hp) (fun z hz _ => ho z hz)
    exact this
  · rintro m₁ nx h tk ⟨rfl, h1, ho⟩ F₁ N₁
    refine done m₁ h tk h1 ho ?_ N₁
    exact fr_outs (x := Str.ofString "i") [] F₁ (fun _ hp => nomatch hp) (fun z hz _ => ho z hz)
end
theorem opened_bound {T : List TE} {k : Nat} (hT : T.length ≤ 3) (h5 : ∀ q ∈ T, q.y.length ≤ 5) (c : Str) : (opened c ((T.drop k).map TE.pair)).length ≤ 125 := by
  refine Nat.le_trans (opened_len (fun p hp => ?_) c) ?_
  · obtain ⟨q, hq, rfl⟩ := List.mem_map.mp hp
    exact h5 q (List.mem_of_mem_drop hq)
  · have h2 : ((T.drop k).map TE.pair).length ≤ 3 := by rw [List.length_map, List.length_drop]; lia
    exact Nat.le_trans (Nat.pow_le_pow_right (by decide) h2) (by decide)
/-- the turns of the loop over an entry's text -/
def OpJ2 (y : Str) (D : List (Str × Str)) (m₀ : Str → Option Value) (i : Nat) (m : Str → Option Value) (nx : List (Addr × Obj)) : Prop :=
  (∃ (lo : List (Str × Tok)) (ao : Addr) (co : Nat), nx = [(ao, W.listOf (strValues lo).toArray co)] ∧ lo.map (·.1) = (y.cps.toList.take i).flatMap (fun d => opened ⟨#[d]⟩ D) ∧ m (Str.ofString "opened") = some (.ref ao)) ∧
    ∀ z, z ≠ Str.ofString "inner" → z ≠ Str.ofString "opened" → m z = m₀ z
theorem no_match {T : List TE} {k : Nat} {x : Str} {i : Nat} (h : ∀ j, j < i → ∀ q, (T.drop k)[j]? = some q → (q.x == x) = false) : opened x ((T.drop k).map TE.pair) = opened x ((T.drop (k + i)).map TE.pair) := by
  rw [opened_skip (i := i) (T := (T.drop k).map TE.pair) (fun j hj p hp => ?_), ← List.map_drop, List.drop_drop]
  rw [List.getElem?_map] at hp
  cases e : (T.drop k)[j]? with
  | none => rw [e] at hp; cases hp
  | some q => rw [e] at hp; cases hp; exact h j hj q e
theorem opened_at {T : List TE} {k i : Nat} {x : Str} {q : TE} (h : ∀ j, j < i → ∀ q, (T.drop k)[j]? = some q → (q.x == x) = false) (hq : T[k + i]? = some q) (hx : (q.x == x) = true) :
    opened x ((T.drop k).map TE.pair) = q.y.cps.toList.flatMap (fun d => opened ⟨#[d]⟩ ((T.drop (k + i + 1)).map TE.pair)) := by
  obtain ⟨hl, e⟩ := List.getElem?_eq_some_iff.mp hq
  rw [no_match h, List.drop_eq_getElem_cons hl, e, List.map_cons]
  show opened x ((q.x, q.y) :: _) = _
  rw [opened, if_pos hx]
theorem opened_none {T : List TE} {k : Nat} {x : Str} (h : ∀ j, j < T.length - k → ∀ q, (T.drop k)[j]? = some q → (q.x == x) = false) : opened x ((T.drop k).map TE.pair) = [x] := by
  rw [no_match h, List.drop_eq_nil_of_le (by lia)]; rfl
theorem flat_bound {D : List (Str × Str)} (h : ∀ c, (opened c D).length ≤ 125) : ∀ l : List Nat, (l.flatMap (fun d => opened ⟨#[d]⟩ D)).length ≤ l.length * 125
  | [] => by simp
  | d :: l => by
    have h1 := flat_bound h l
    have h2 := h ⟨#[d]⟩
    rw [List.flatMap_cons, List.length_append, List.length_cons, Nat.succ_mul]; lia
theorem flat_step {y : Str} {D : List (Str × Str)} {i c : Nat} {lo l' : List (Str × Tok)} (hc : y.cps[i]? = some c) (hlo : lo.map (·.1) = (y.cps.toList.take i).flatMap (fun d => opened ⟨#[d]⟩ D)) (h' : l'.map (·.1) = opened ⟨#[c]⟩ D) :
    (lo ++ l').map (·.1) = (y.cps.toList.take (i + 1)).flatMap (fun d => opened ⟨#[d]⟩ D) := by
  have hc' : y.cps.toList[i]? = some c := by rw [Array.getElem?_toList]; exact hc
  rw [List.map_append, hlo, h', List.take_add_one, hc', List.flatMap_append]; simp
theorem pick_two {h₀ h : Heap} {L b I : Addr} {ob oI : Obj} {news : List (Addr × Obj)} (N : News h₀ L h ((b, ob) :: news)) (hI : (I, oI) ∈ (b, ob) :: news) : News h₀ L h [(I, oI), (b, ob)] := fun p hp => N p (by
  rcases List.mem_cons.mp hp with rfl | hp
  · exact hI
  · rw [List.mem_singleton.mp hp]; exact .head _)
theorem ne_one {a I : Addr} {o : Obj} (h : a ≠ I) : ∀ p ∈ [(a, o)], p.1 ≠ I := fun p hp => by rw [List.mem_singleton.mp hp]; exact h
section
variable {prog : Program} {w : World} {A : Around} {E : Value → Shared → Prop} {s : Shared} {env : Env} {h₀ : Heap} {body : List Stmt} {Q : Flow → Shared → Prop}
theorem loop_op2 {y : Str} {u : Tok} {D : List (Str × Str)} {m₀ : Str → Option Value} {an : Addr} {kn : Nat} {rest : List (Addr × Obj)}
    (hh : A.handled = none) (F : Fr h₀ env.locals s.heap m₀) (N : News h₀ env.locals s.heap ((an, W.listOf #[] kn) :: rest)) (e : m₀ (Str.ofString "opened") = some (.ref an))
    (turn : ∀ (i c : Nat) (u : Tok) (lo : List (Str × Tok)) (ao : Addr) (co : Nat) (h : Heap) (tk : Nat) (I : Addr) (oI : Obj), y.cps[i]? = some c → lo.map (·.1) = (y.cps.toList.take i).flatMap (fun d => opened ⟨#[d]⟩ D) → i < y.length → ao ≠ I →
      Fr h₀ env.locals h (fun z => if z = Str.ofString "inner" then some (.str ⟨#[c]⟩ u) else if z = Str.ofString "opened" then some (.ref ao) else m₀ z) → News h₀ env.locals h [(I, oI), (ao, W.listOf (strValues lo).toArray co)] →
      wpAny (model prog w) A (execs body env) (TurnEnd h₀ env.locals (OpJ2 y D m₀ (i + 1)) I oI { s with heap := h, toks := tk } Q) E { s with heap := h, toks := tk })
    (done : ∀ (lo : List (Str × Tok)) (ao : Addr) (co : Nat) (vi : Option Value) (h : Heap) (tk : Nat), lo.map (·.1) = y.cps.toList.flatMap (fun d => opened ⟨#[d]⟩ D) →
      Fr h₀ env.locals h (fun z => if z = Str.ofString "inner" then vi else if z = Str.ofString "opened" then some (.ref ao) else m₀ z) → News h₀ env.locals h [(ao, W.listOf (strValues lo).toArray co)] → Q .next { s with heap := h, toks := tk }) :
    wpAny (model prog w) A (pyIter (.str y u)) (fun it s₂ => LoopAtV prog w A h₀ env (Str.ofString "inner") body Q E it s₂) E s := by
  refine loop_text (OpJ2 y D m₀) hh F (nx₀ := [(an, W.listOf #[] kn)]) (fun p hp => N p (by rw [List.mem_singleton.mp hp]; exact .head _)) ⟨⟨[], an, kn, rfl, rfl, e⟩, fun _ _ _ => rfl⟩ ?_ ?_
  · rintro i c u m₁ nx h tk I oI hc ⟨⟨lo, ao, co, rfl, hlo, e1⟩, ho⟩ hne F₁ N₁
    refine turn i c u lo ao co h tk I oI hc hlo (by have := Array.getElem?_eq_some_iff.mp hc; exact this.1) (hne _ (.head _)) ?_ N₁
    exact fr_offs [(Str.ofString "opened", _)] F₁ (all1 e1) (fun z hz hz2 => ho z hz (hz2 _ (.head _)))
  · rintro m₁ nx h tk ⟨⟨lo, ao, co, rfl, hlo, e1⟩, ho⟩ F₁ N₁
    rw [show y.cps.toList.take y.cps.size = y.cps.toList from by rw [← Array.length_toList, List.take_length]] at hlo
    exact done lo ao co _ h tk hlo (fr_outs (x := Str.ofString "inner") [(Str.ofString "opened", _)] F₁ (all1 e1) (fun z hz hz2 => ho z hz (hz2 _ (.head _)))) N₁
end
section
set_option maxHeartbeats 4000000 in
theorem op_step (w : World) (mean : ExcName → Option Value) (mg mb : Str → Option Value) (x : Str) (t u : Tok) (a1 : Addr) (vs : List Value) (T : List TE) (k : Nat) (dd uu : Nat) (hT : T.length ≤ 3) (h5 : ∀ q ∈ T, q.y.length ≤ 5) (hkl : k ≤ T.length)
    (hI : ∀ k', k < k' → k' ≤ T.length → ∀ x t u, Tell w mean mg mb 166 dd uu [.str x t, .ref a1, .int k' u] (EntsPre a1 vs T) (NewStrs (opened x ((T.drop k').map TE.pair)))) :
    Tell w mean mg mb 166 (dd + 3) (uu + 48) [.str x t, .ref a1, .int k u] (EntsPre a1 vs T) (NewStrs (opened x ((T.drop k).map TE.pair))) := by
  k_with_none
  k_with "call builtin:issubclass" => (k_here; (with_reducible show wpAny _ _ (call (Value.builtin "issubclass") [Value.type "str", Value.ref _]) _ _ _); k_dflt (refine' Mine.issub_tuple (by exact News.get (by k_asm) (by k_mem)) ?_; k_whole); intro tk')
  k_with "call ref" => (k_here; (with_reducible show wpAny _ _ (call (Value.ref 94) [Value.str _ _]) _ _ _); k_dflt (k_call_by "use" (Mine.fspath_tells _ _ _ _ _ _)); (case kp => trivial); intro v' h' tk' F' N' st' r'; subst r'; clear st'; (try dsimp only); (try k_fold); (try k_sweep))
  k_with "call ref" => (k_here; (with_reducible show wpAny _ _ (call (Value.ref 108) [Value.str _ _]) _ _ _); k_dflt (k_call_by "use" (Mine.getsep_tells _ _ _ _ _ _)); (case kp => trivial); intro v' h' tk' F' N' st' r'; (try dsimp only at r'); obtain ⟨t', r'⟩ := r'; subst r'; clear st'; (try dsimp only); (try k_fold); (try k_sweep))
  k_with "call ref" => (k_here; (with_reducible show wpAny _ _ (call (Value.ref 122) [Value.str _ _]) _ _ _); k_dflt (k_call_by "new" (Mine.splitroot_tells _ _ _ _ _ _ (by first | assumption | lia))); (case kp => trivial); intro v' h' tk' F' N' nw' r'; (try dsimp only at r'); obtain ⟨a', t1', t2', t3', r', r2', r3'⟩ := r'; subst r'; (replace N' := nw' _ _ r2' r3'); clear nw' r2' r3'; (try dsimp only); (try k_fold); (try k_sweep))
  k_with "storeName" => (k_here; k_dflt (refine' Mine.store_put (by k_asm) (by k_asm) ?_ (by rfl) (by rfl); k_whole; intro h' F' N'; (try k_sweep)))
  k_with "exec For" => (k_here; (rename Fr _ _ _ _ => lF'); (with_unfolding_all refine' For_invVF lF' (by exact rfl) (by exact rfl) ?_; k_whole))
  k_with "call builtin:len" => (k_here; (with_reducible show wpAny _ _ (call (Value.builtin _) [Value.ref _]) _ _ _); k_dflt (refine' Mine.len_ents (by exact Fr.lst (by k_asm) (by assumption)) (by exact EntsAt.keep (by assumption) (Fr.keep (by k_asm))) (by lia) ?_; k_whole))
  k_with "subscriptTail" => (k_here; (with_reducible show wpAny _ _ (subscriptTail _ _ (Value.ref _) (Value.int _ _)) _ _ _); k_dflt (refine' Mine.item_ref (by exact Fr.lst (by k_asm) (by assumption)) (by lia) (by lia) (by assumption) ?_; k_whole))
  k_with "call ref" => (k_here; (with_reducible show wpAny _ _ (call (Value.ref 166) [Value.str _ _, Value.ref _, Value.int _ _]) _ _ _); k_dflt (k_call_by "new" (hcall _ _ _)); (case kp => exact ⟨Fr.lst (by k_asm) H1, EntsAt.keep H2 (Fr.keep (by k_asm))⟩); intro v' h' tk' F' N' nw' r'; (try dsimp only at r'); obtain ⟨b', c', l', r', r2', r3', r4'⟩ := r'; subst r'; (have r5' := hbnd _ _ r4'); (replace N' := nw' _ _ r2' r3'); clear nw' r2' r3'; (try dsimp only); (try k_fold); (try k_sweep))
  k_with "mine list" => first | with_reducible assumption | exact News.isList (by k_asm) (by k_mem) | exact Fr.lst (by k_asm) (by assumption)
  k_with "binaryOp Add" => (k_here; (with_reducible show wpAny _ _ (binaryOp _ (Value.ref _) (Value.ref _)) _ _ _); k_dflt (refine' Mine.cat_strs (by k_asm) (by k_asm) (by walk_at "mine list") (by walk_at "mine list") (by lia) ?_; k_whole); intro c' h' F' N' l1; (try k_lt l1); (try k_sweep))
  k_with "pyIter str" => refine Mine.halt ?_
  k_with "pyIter ref" => refine Mine.halt ?_
  unfold Tell
  k_fill
  intro dp un gd cn cs a ccd cl outer A₀ base h₀ L m s Q E B F X Tp hk hp hdp hun hret
  have N : News h₀ L s.heap [] := News.nil
  obtain ⟨H1, H2⟩ := hp
  refine wpAny_call ?_
  k_dflt (refine' Mine.enter0 ?k1 ?k2 ?k3 ?k5 ?kA ?kF ?kK ?k6 ?k7 ?k8 ?k9 ?kB ?_ ?c2 ?c3 ?c4 ?c5; (case kA => exact rfl); (case kF => exact rfl); (case kK => assumption); (case k1 => k_asm); (case k2 => k_asm); (case k3 => k_asm); (case k5 => k_asm); (case k6 => k_is); (case k7 => k_is); (case k8 => ktr_room); (case k9 => first | exact BindsTo.of_eq rfl | exact binds_K (by k_in) rfl (by k_is) rfl rfl rfl); (case c5 => decide); (case kB => exact locs rfl); (case c2 => exact rfl); (case c3 => exact rfl); (case c4 => exact rfl); k_whole; intro L' h' F' N' B' X' T'; (try dsimp only); (try k_lift B'); (try k_fold))
  replace F' : Fr _ _ _ (Mine.put (Str.ofString "k") (.int k u) (Mine.put (Str.ofString "entries") (.ref a1) (Mine.put (Str.ofString "sign") (.str x t) fun _ => none))) := Mine.fr_puts [(Str.ofString "k", .int k u), (Str.ofString "entries", .ref a1), (Str.ofString "sign", .str x t)] F'
  k_steps
  refine go_on ?_
  rename Fr _ _ _ _ => F1
  rename News _ _ _ [] => N1
  rename IsRange _ _ _ _ _ _ _ _ => R1
  refine' loop_op (x := x) rfl R1 hT hkl F1 N1 ?ht ?hd
  case ht =>
    rintro i t m₁ h tk I oI hi hno F2 N2 ho
    obtain ⟨q, hq⟩ : ∃ q, T[k + i]? = some q := ⟨T[k + i], List.getElem?_eq_getElem (by lia)⟩
    obtain ⟨b, hb1, hb2⟩ := H2.2 (k + i) q hq
    have hb3 : vs[((k : Int) + (i : Int)).toNat]? = some (.ref b) := by rw [show ((k : Int) + (i : Int)).toNat = k + i from by lia]; exact hb1
    have hcall : ∀ x t u, Tell w mean mg mb 166 dd uu [.str x t, .ref a1, .int ((k : Int) + (i : Int) + 1) u] (EntsPre a1 vs T) (NewStrs (opened x ((T.drop (k + i + 1)).map TE.pair))) := fun x t u => by
      have := hI (k + i + 1) (by lia) (by lia) x t u
      rw [show ((k + i + 1 : Nat) : Int) = (k : Int) + (i : Int) + 1 from by lia] at this
      exact this
    have hbnd : ∀ (l : List (Str × Tok)) (c : Str), l.map (·.1) = opened c ((T.drop (k + i + 1)).map TE.pair) → l.length ≤ 125 := fun l c e => by
      have h1 := opened_bound (k := k + i + 1) hT h5 c
      rw [← e, List.length_map] at h1; exact h1
    have hy5 := h5 q (List.mem_of_getElem? hq)
    k_steps
    · refine go_on ?_
      rename Fr _ _ _ _ => F3
      rename News _ _ _ (_ :: _) => N3
      refine' loop_op2 (D := (T.drop (k + i + 1)).map TE.pair) rfl F3 N3 rfl ?ht2 ?hd2
      case ht2 =>
        rintro j c u lo ao co h tk I' oI' hc hlo hjy hne F4 N4
        have hlo2 : lo.length ≤ 625 := by
          have h1 := flat_bound (D := (T.drop (k + i + 1)).map TE.pair) (opened_bound (k := k + i + 1) hT h5) (q.y.cps.toList.take j)
          rw [← hlo, List.length_map, List.length_take] at h1
          have h2 : q.y.cps.toList.length ≤ 5 := by simpa [Str.length] using hy5
          lia
        k_steps
        rename News _ _ _ ((_, W.listOf (strValues (lo ++ _)).toArray 0) :: _) => N9
        exact turn_end [(_, _)] (by assumption) (pick_two N9 (by k_mem)) (ne_one (by exact Nat.ne_of_gt (by lia))) ⟨⟨_, _, _, rfl, flat_step hc hlo (by assumption), rfl⟩, fun z z1 z2 => by simp only [Mine.put, if_neg z1, if_neg z2]⟩
      case hd2 =>
        rintro lo ao co vi h tk hlo F4 N4
        k_steps
        exact hret _ _ _ (Fr.keep (by assumption)) ⟨ao, co, lo, rfl, News.fresh N4 (.head _), News.get (by assumption) (.head _), by rw [hlo, opened_at hno hq (by assumption)]⟩
    · exact turn_end [] (by assumption) (by assumption) (fun _ hp => nomatch hp) ⟨rfl, fun j hj q' hq' => by
        by_cases hji : j = i
        · subst hji
          rw [List.getElem?_drop, hq] at hq'
          cases hq'; assumption
        · exact hno j (by lia) q' hq', fun z z1 => by simp only [Mine.put, if_neg z1]⟩
  case hd =>
    rintro m₁ h tk hno ho F2 N2
    k_steps
    exact hret _ _ _ (Fr.keep (by assumption)) ⟨_, _, [(x, t)], rfl, News.fresh (by assumption) (.head _), News.get (by assumption) (.head _), (opened_none hno).symm⟩
theorem op_all (w : World) (mean : ExcName → Option Value) (mg mb : Str → Option Value) (a1 : Addr) (vs : List Value) (T : List TE) (hT : T.length ≤ 3) (h5 : ∀ q ∈ T, q.y.length ≤ 5) :
    ∀ (n k : Nat), k ≤ T.length → T.length - k = n → ∀ (x : Str) (t u : Tok), Tell w mean mg mb 166 (3 * n + 3) (48 * n + 48) [.str x t, .ref a1, .int k u] (EntsPre a1 vs T) (NewStrs (opened x ((T.drop k).map TE.pair)))
  | 0, k, hk, hn, x, t, u => op_step w mean mg mb x t u a1 vs T k 0 0 hT h5 hk (fun k' h1 h2 => absurd h1 (by lia))
  | n + 1, k, hk, hn, x, t, u => by
    refine (op_step w mean mg mb x t u a1 vs T k (3 * n + 3) (48 * n + 48) hT h5 hk (fun k' h1 h2 x t u => ?_)).more (by lia) (by lia)
    exact (op_all w mean mg mb a1 vs T hT h5 (T.length - k') k' h2 rfl x t u).more (by lia) (by lia)
termination_by n => n
theorem lopened_tells (w : World) (mean : ExcName → Option Value) (mg mb : Str → Option Value) (a1 : Addr) (vs : List Value) (T : List TE) (hT : T.length ≤ 3) (h5 : ∀ q ∈ T, q.y.length ≤ 5) (x : Str) (t u : Tok) :
    Tell w mean mg mb 166 12 192 [.str x t, .ref a1, .int 0 u] (EntsPre a1 vs T) (NewStrs (opened x (T.map TE.pair))) :=
  (op_all w mean mg mb a1 vs T hT h5 T.length 0 (Nat.zero_le _) rfl x t u).more (by lia) (by lia)
end
end Mine

namespace Mine
section
variable {prog : Program} {w : World} {A : Around} {E : Value → Shared → Prop} {s : Shared} {env : Env} {h₀ : Heap} {body : List Stmt} {Q : Flow → Shared → Prop}
theorem fr_eq {h : Heap} {L : Addr} {m m' : Str → Option Value} (F : Fr h₀ L h m) (e : ∀ z, m' z = m z) : Fr h₀ L h m' := by
  rw [show m' = m from funext e]; exact F
/-- a loop over a text that grows a list of texts -/
def AccJ (v acc sc : Str) (l0 : List (Str × Tok)) (y : Str) (g : Nat → List Str) (rest : List (Addr × Obj)) (m₀ : Str → Option Value) (i : Nat) (m : Str → Option Value) (nx : List (Addr × Obj)) : Prop :=
  (∃ (lo : List (Str × Tok)) (ao : Addr) (co : Nat), nx = (ao, W.listOf (strValues lo).toArray co) :: rest ∧ lo.map (·.1) = l0.map (·.1) ++ (y.cps.toList.take i).flatMap g ∧ m acc = some (.ref ao) ∧ ∀ p ∈ rest, ao ≠ p.1) ∧
    ∀ z, z ≠ v → z ≠ acc → z ≠ sc → m z = m₀ z
theorem loop_acc {v acc : Str} (sc : Str) (hav : acc ≠ v) {y : Str} {u : Tok} (g : Nat → List Str) {m₀ : Str → Option Value} {an : Addr} {kn : Nat} (l0 : List (Str × Tok)) {rest : List (Addr × Obj)}
    (hh : A.handled = none) (F : Fr h₀ env.locals s.heap m₀) (N : News h₀ env.locals s.heap ((an, W.listOf (strValues l0).toArray kn) :: rest)) (e : m₀ acc = some (.ref an)) (hr : ∀ p ∈ rest, an ≠ p.1)
    (turn : ∀ (i c : Nat) (u : Tok) (lo : List (Str × Tok)) (ao : Addr) (co : Nat) (vi : Option Value) (h : Heap) (tk : Nat) (I : Addr) (oI : Obj), y.cps[i]? = some c → lo.map (·.1) = l0.map (·.1) ++ (y.cps.toList.take i).flatMap g → i < y.length → (∀ p ∈ rest, ao ≠ p.1) → ao ≠ I → (∀ p ∈ rest, p.1 ≠ I) →
      Fr h₀ env.locals h (fun z => if z = v then some (.str ⟨#[c]⟩ u) else if z = acc then some (.ref ao) else if z = sc then vi else m₀ z) → News h₀ env.locals h ((I, oI) :: (ao, W.listOf (strValues lo).toArray co) :: rest) →
      wpAny (model prog w) A (execs body env) (TurnEnd h₀ env.locals (AccJ v acc sc l0 y g rest m₀ (i + 1)) I oI { s with heap := h, toks := tk } Q) E { s with heap := h, toks := tk })
    (done : ∀ (lo : List (Str × Tok)) (ao : Addr) (co : Nat) (vi vj : Option Value) (h : Heap) (tk : Nat), lo.map (·.1) = l0.map (·.1) ++ y.cps.toList.flatMap g → (∀ p ∈ rest, ao ≠ p.1) →
      Fr h₀ env.locals h (fun z => if z = v then vj else if z = acc then some (.ref ao) else if z = sc then vi else m₀ z) → News h₀ env.locals h ((ao, W.listOf (strValues lo).toArray co) :: rest) → Q .next { s with heap := h, toks := tk }) :
    wpAny (model prog w) A (pyIter (.str y u)) (fun it s₂ => LoopAtV prog w A h₀ env v body Q E it s₂) E s := by
  have key : ∀ (m₁ : Str → Option Value) (ao : Addr), m₁ acc = some (.ref ao) → (∀ z, z ≠ v → z ≠ acc → z ≠ sc → m₁ z = m₀ z) → ∀ z, z ≠ v → (if z = acc then some (.ref ao) else if z = sc then m₁ sc else m₀ z) = m₁ z := by
    intro m₁ ao e1 ho z z0
    by_cases z1 : z = acc
    · rw [if_pos z1, z1, e1]
    rw [if_neg z1]
    by_cases z2 : z = sc
    · rw [if_pos z2, z2]
    rw [if_neg z2, ho z z0 z1 z2]
  refine loop_text (AccJ v acc sc l0 y g rest m₀) hh F N ⟨⟨l0, an, kn, rfl, by simp, e, hr⟩, fun _ _ _ _ => rfl⟩ ?_ ?_
  · rintro i c u m₁ nx h tk I oI hc ⟨⟨lo, ao, co, rfl, hlo, e1, hr1⟩, ho⟩ hne F₁ N₁
    refine turn i c u lo ao co (m₁ sc) h tk I oI hc hlo (by have := Array.getElem?_eq_some_iff.mp hc; exact this.1) hr1 (hne _ (.head _)) (fun p hp => hne p (.tail _ hp)) (fr_eq F₁ fun z => ?_) N₁
    by_cases z0 : z = v
    · rw [if_pos z0, if_pos z0]
    · rw [if_neg z0, if_neg z0]; exact key m₁ ao e1 ho z z0
  · rintro m₁ nx h tk ⟨⟨lo, ao, co, rfl, hlo, e1, hr1⟩, ho⟩ F₁ N₁
    rw [show y.cps.toList.take y.cps.size = y.cps.toList from by rw [← Array.length_toList, List.take_length]] at hlo
    refine done lo ao co (m₁ sc) (m₁ v) h tk hlo hr1 (fr_eq F₁ fun z => ?_) N₁
    by_cases z0 : z = v
    · rw [if_pos z0, z0]
    · rw [if_neg z0]; exact key m₁ ao e1 ho z z0
theorem acc_step {l0 lo l' : List (Str × Tok)} {y : Str} {g : Nat → List Str} {i c : Nat} (hc : y.cps[i]? = some c) (hlo : lo.map (·.1) = l0.map (·.1) ++ (y.cps.toList.take i).flatMap g) (h' : l'.map (·.1) = g c) :
    (lo ++ l').map (·.1) = l0.map (·.1) ++ (y.cps.toList.take (i + 1)).flatMap g := by
  have hc' : y.cps.toList[i]? = some c := by rw [Array.getElem?_toList]; exact hc
  rw [List.map_append, hlo, h', List.take_add_one, hc', List.flatMap_append]; simp
theorem acc_step' {l0 lo l' : List (Str × Tok)} {y : Str} {g : Nat → List Str} {i c : Nat} (hc : y.cps[i]? = some c) (hlo : lo.map (·.1) = l0.map (·.1) ++ (y.cps.toList.take i).flatMap g) (h' : l'.map (·.1) = lo.map (·.1) ++ g c) :
    l'.map (·.1) = l0.map (·.1) ++ (y.cps.toList.take (i + 1)).flatMap g := by
  have hc' : y.cps.toList[i]? = some c := by rw [Array.getElem?_toList]; exact hc
  rw [h', hlo, List.take_add_one, hc', List.flatMap_append]; simp
theorem flat_le {g : Nat → List Str} {n : Nat} (h : ∀ c, (g c).length ≤ n) : ∀ l : List Nat, (l.flatMap g).length ≤ l.length * n
  | [] => by simp
  | d :: l => by
    have h1 := flat_le h l
    have h2 := h d
    rw [List.flatMap_cons, List.length_append, List.length_cons, Nat.succ_mul]; lia
end
theorem news_tor {h₀ h : Heap} {L : Addr} {a b c : Addr × Obj} (N : News h₀ L h [a, b, c]) : News h₀ L h [c, a, b] := news_pick3 N (.tail _ (.tail _ (.head _))) (.head _) (.tail _ (.head _))
theorem pick_acc {h₀ h : Heap} {L b I : Addr} {ob oI : Obj} {p1 p2 : Addr × Obj} {news : List (Addr × Obj)} (N : News h₀ L h ((b, ob) :: news)) (hI : (I, oI) ∈ (b, ob) :: news) (h1 : p1 ∈ (b, ob) :: news) (h2 : p2 ∈ (b, ob) :: news) : News h₀ L h [(I, oI), (b, ob), p1, p2] := fun p hp => N p (by
  rcases List.mem_cons.mp hp with rfl | hp
  · exact hI
  rcases List.mem_cons.mp hp with rfl | hp
  · exact .head _
  rcases List.mem_cons.mp hp with rfl | hp
  · exact h1
  · rw [List.mem_singleton.mp hp]; exact h2)
theorem news_rot {h₀ h : Heap} {L : Addr} {a b c : Addr × Obj} (N : News h₀ L h [a, b, c]) : News h₀ L h [b, c, a] := news_pick3 N (.tail _ (.head _)) (.tail _ (.tail _ (.head _))) (.head _)
/-- what stands for one sign of a program ahead of the table -/
def threeS (c : Nat) : Str := if c = 38 then Str.ofString "&amp;" else if c = 60 then Str.ofString "&lt;" else ⟨#[c]⟩
theorem threeS_len (c : Nat) : (threeS c).length ≤ 5 := by
  unfold threeS
  split
  · exact Nat.le_of_eq (by decide +kernel)
  · split
    · exact Nat.le_trans (Nat.le_of_eq (show _ = 4 by decide +kernel)) (by decide)
    · show 1 ≤ 5; decide
/-- what _law_signs hands back -/
def signsC (D : List (Str × Str)) (c : Nat) : List Str := (threeS c).cps.toList.flatMap (fun d => opened ⟨#[d]⟩ D)
def signsL (x : Str) (D : List (Str × Str)) : List Str := x.cps.toList.flatMap (signsC D)
theorem three_rule {prog : Program} {w : World} {A : Around} {E : Value → Shared → Prop} {s : Shared} {h₀ : Heap} {L d : Addr} {news : List (Addr × Obj)} {o : Obj} {c : Nat} {u t1 t2 t3 t4 : Tok} {Q : Value → Shared → Prop}
    (N : News h₀ L s.heap news) (hp : (d, o) ∈ news) (hd : o.IsDictOf (PySem.strKind prog w) (strPairs [(.str (Str.ofString "&") t1, .str (Str.ofString "&amp;") t2), (.str (Str.ofString "<") t3, .str (Str.ofString "&lt;") t4)])) (lo : (d == sysModules) = false)
    (h : ∀ u' k, Q (.str (threeS c) u') { s with toks := k }) : wpAny (model prog w) A (call (.builtin "dict.get") [.ref d, .str ⟨#[c]⟩ u, .str ⟨#[c]⟩ u]) Q E s := by
  refine kdg_get2 (knd := PySem.strKind _ _) (k := ⟨#[c]⟩) N hp hd lo ?_ _ rfl ?_
  · exact strKind_is _ _ _ _
  · have hA : Str.ofString "&" = ⟨#[38]⟩ := by decide +kernel
    have hB : Str.ofString "<" = ⟨#[60]⟩ := by decide +kernel
    have e : (valueAt (strPairs [(.str (Str.ofString "&") t1, .str (Str.ofString "&amp;") t2), (.str (Str.ofString "<") t3, .str (Str.ofString "&lt;") t4)]) ⟨#[c]⟩).getD (.str ⟨#[c]⟩ u) = .str (threeS c) (if c = 38 then t2 else if c = 60 then t4 else u) := by
      unfold valueAt threeS
      simp only [strPairs, List.find?, hA, hB]
      by_cases h1 : c = 38
      · subst h1; simp
      · by_cases h2 : c = 60
        · subst h2; simp
        · have n1 : ¬ (38 = c) := fun e => h1 e.symm
          have n2 : ¬ (60 = c) := fun e => h2 e.symm
          simp [n1, n2, h1, h2]
    rw [e]
    exact h _ _
section
set_option maxHeartbeats 4000000 in
theorem lsigns_tells (w : World) (mean : ExcName → Option Value) (mg mb : Str → Option Value) (x : Str) (t : Tok) (a1 : Addr) (vs : List Value) (T : List TE) (hT : T.length ≤ 3) (h5 : ∀ q ∈ T, q.y.length ≤ 5) (hx : x.length ≤ 3) :
    Tell w mean mg mb 173 16 256 [.str x t, .ref a1] (EntsPre a1 vs T) (NewStrs (signsL x (T.map TE.pair))) := by
  k_with_none
  k_with "call builtin:issubclass" => (k_here; (with_reducible show wpAny _ _ (call (Value.builtin "issubclass") [Value.type "str", Value.ref _]) _ _ _); k_dflt (refine' Mine.issub_tuple (by exact News.get (by k_asm) (by k_mem)) ?_; k_whole); intro tk')
  k_with "call ref" => (k_here; (with_reducible show wpAny _ _ (call (Value.ref 94) [Value.str _ _]) _ _ _); k_dflt (k_call_by "use" (Mine.fspath_tells _ _ _ _ _ _)); (case kp => trivial); intro v' h' tk' F' N' st' r'; subst r'; clear st'; (try dsimp only); (try k_fold); (try k_sweep))
  k_with "call ref" => (k_here; (with_reducible show wpAny _ _ (call (Value.ref 108) [Value.str _ _]) _ _ _); k_dflt (k_call_by "use" (Mine.getsep_tells _ _ _ _ _ _)); (case kp => trivial); intro v' h' tk' F' N' st' r'; (try dsimp only at r'); obtain ⟨t', r'⟩ := r'; subst r'; clear st'; (try dsimp only); (try k_fold); (try k_sweep))
  k_with "call ref" => (k_here; (with_reducible show wpAny _ _ (call (Value.ref 122) [Value.str _ _]) _ _ _); k_dflt (k_call_by "new" (Mine.splitroot_tells _ _ _ _ _ _ (by first | assumption | lia))); (case kp => trivial); intro v' h' tk' F' N' nw' r'; (try dsimp only at r'); obtain ⟨a', t1', t2', t3', r', r2', r3'⟩ := r'; subst r'; (replace N' := nw' _ _ r2' r3'); clear nw' r2' r3'; (try dsimp only); (try k_fold); (try k_sweep))
  k_with "storeName" => (k_here; k_dflt (refine' Mine.store_put (by k_asm) (by k_asm) ?_ (by rfl) (by rfl); k_whole; intro h' F' N'; (try k_sweep)))
  k_with "exec For" => (k_here; (rename Fr _ _ _ _ => lF'); (with_unfolding_all refine' For_invVF lF' (by exact rfl) (by exact rfl) ?_; k_whole))
  k_with "pyIter str" => refine Mine.halt ?_
  k_with "call builtin:dict.get" => (k_dflt (refine Mine.three_rule (by k_asm) (by k_mem) hdT loT ?_); intro u' k')
  k_with "getMethod ref" => (k_here; k_dflt (refine' kdg_method (knd := PySem.strKind _ _) (by k_asm) (by k_mem) (by exact hdT) ?_; k_whole))
  k_with "call ref" => (k_here; (with_reducible show wpAny _ _ (call (Value.ref 166) [Value.str _ _, Value.ref _, Value.int _ _]) _ _ _); k_dflt (k_call_by "new" (Mine.lopened_tells w mean mg mb a1 vs T hT h5 _ _ _)); (case kp => exact ⟨Fr.lst (by k_asm) H1, EntsAt.keep H2 (Fr.keep (by k_asm))⟩); intro v' h' tk' F' N' nw' r'; (try dsimp only at r'); obtain ⟨b', c', l', r', r2', r3', r4'⟩ := r'; subst r'; (have r5' := ob2 _ _ r4'); (replace N' := nw' _ _ r2' r3'); clear nw' r2' r3'; (try dsimp only); (try k_fold); (try k_sweep))
  k_with "mine list" => first | with_reducible assumption | exact News.isList (by k_asm) (by k_mem) | exact Fr.lst (by k_asm) (by assumption)
  k_with "binaryOp Add" => (k_here; (with_reducible show wpAny _ _ (binaryOp _ (Value.ref _) (Value.ref _)) _ _ _); k_dflt (refine' Mine.cat_strs (by k_asm) (by k_asm) (by walk_at "mine list") (by walk_at "mine list") (by lia) ?_; k_whole); intro c' h' F' N' l1; (try k_lt l1); (try k_sweep))
  unfold Tell
  k_fill
  intro dp un gd cn cs a ccd cl outer A₀ base h₀ L m s Q E B F X Tp hk hp hdp hun hret
  have N : News h₀ L s.heap [] := News.nil
  obtain ⟨H1, H2⟩ := hp
  refine wpAny_call ?_
  k_dflt (refine' Mine.enter0 ?k1 ?k2 ?k3 ?k5 ?kA ?kF ?kK ?k6 ?k7 ?k8 ?k9 ?kB ?_ ?c2 ?c3 ?c4 ?c5; (case kA => exact rfl); (case kF => exact rfl); (case kK => assumption); (case k1 => k_asm); (case k2 => k_asm); (case k3 => k_asm); (case k5 => k_asm); (case k6 => k_is); (case k7 => k_is); (case k8 => ktr_room); (case k9 => first | exact BindsTo.of_eq rfl | exact binds_K (by k_in) rfl (by k_is) rfl rfl rfl); (case c5 => decide); (case kB => exact locs rfl); (case c2 => exact rfl); (case c3 => exact rfl); (case c4 => exact rfl); k_whole; intro L' h' F' N' B' X' T'; (try dsimp only); (try k_lift B'); (try k_fold))
  replace F' : Fr _ _ _ (Mine.put (Str.ofString "entries") (.ref a1) (Mine.put (Str.ofString "program") (.str x t) fun _ => none)) := Mine.fr_puts [(Str.ofString "entries", .ref a1), (Str.ofString "program", .str x t)] F'
  k_steps
  refine go_on ?_
  rename Fr _ _ _ _ => F1
  rename News _ _ _ (_ :: _) => N1
  rename Obj.IsDictOf _ _ _ => hdT
  rename (_ == sysModules) = false => loT
  have ob : ∀ c, (opened c (T.map TE.pair)).length ≤ 125 := fun c => by
    have := opened_bound (k := 0) hT h5 c
    rw [List.drop_zero] at this; exact this
  have ob2 : ∀ (l : List (Str × Tok)) (c : Str), l.map (·.1) = opened c (T.map TE.pair) → l.length ≤ 125 := fun l c e => by
    have h1 := ob c
    rw [← e, List.length_map] at h1; exact h1
  have hb1 : ∀ c : Nat, (signsC (T.map TE.pair) c).length ≤ 625 := fun c => by
    have h1 := flat_le (g := fun d => opened ⟨#[d]⟩ (T.map TE.pair)) (n := 125) (fun c => ob _) (threeS c).cps.toList
    have h2 : (threeS c).cps.toList.length ≤ 5 := by have := threeS_len c; simpa [Str.length] using this
    unfold signsC; lia
  refine' loop_acc (v := Str.ofString "sign") (acc := Str.ofString "signs") (Str.ofString "inner") (by decide +kernel) (signsC (T.map TE.pair)) [] rfl F1 N1 rfl (all1 (by exact Nat.ne_of_gt (by lia))) ?ht ?hd
  case ht =>
    rintro i c u lo ao co vi h tk I oI hc hlo hi hr1 hne1 hne2 F2 N2
    have hlo2 : lo.length ≤ 1875 := by
      have h1 := flat_le hb1 (x.cps.toList.take i)
      have h2 := congrArg List.length hlo
      simp only [List.map_nil, List.nil_append, List.length_map] at h2
      have h3 : (x.cps.toList.take i).length ≤ 3 := by
        have h4 : x.cps.toList.length ≤ 3 := by simpa [Str.length] using hx
        rw [List.length_take]; lia
      lia
    have hy5 := threeS_len c
    k_steps
    refine go_on ?_
    rename Fr _ _ _ _ => F3
    rename News _ _ _ (_ :: _) => N3
    have N4 := news_rot N3
    refine' loop_acc (v := Str.ofString "inner") (acc := Str.ofString "signs") (Str.ofString "inner") (by decide +kernel) (fun d => opened ⟨#[d]⟩ (T.map TE.pair)) lo ?hh ?hF ?hN ?he ?hr ?ht2 ?hd2
    case hF => exact F3
    case hh => exact rfl
    case hN => exact N4
    case he => exact rfl
    case hr => exact all2 (hr1 _ (.head _)) hne1
    case ht2 =>
      rintro j d u lo2 ao2 co2 vi2 h tk I' oI' hc2 hlo3 hj hr2 hne3 hne4 F4 N4
      have hn5 := neN (hne4 _ (.head _))
      have hn6 := neN (hne4 _ (.tail _ (.head _)))
      dsimp only at hn5 hn6
      have hlo4 : lo2.length ≤ 2500 := by
        have h1 := flat_le (g := fun d => opened ⟨#[d]⟩ (T.map TE.pair)) (n := 125) (fun c => ob _) ((threeS c).cps.toList.take j)
        have h2 := congrArg List.length hlo3
        rw [List.length_append, List.length_map, List.length_map] at h2
        have h3 : ((threeS c).cps.toList.take j).length ≤ 5 := by
          have h4 : (threeS c).cps.toList.length ≤ 5 := by simpa [Str.length] using hy5
          rw [List.length_take]; lia
        lia
      k_steps
      rename News _ _ _ ((_, W.listOf (strValues (lo2 ++ _)).toArray 0) :: _) => N9
      exact turn_end [_, _, _] (by assumption) (pick_acc N9 (by k_mem) (by k_mem) (by k_mem)) (all3 (by exact Nat.ne_of_gt (by lia)) hn5 hn6) ⟨⟨_, _, _, rfl, acc_step hc2 hlo3 r4', rfl, all2 (by exact Nat.ne_of_gt (by lia)) (by exact Nat.ne_of_gt (by lia))⟩, fun z z1 z2 z3 => by simp only [Mine.put, if_neg z1, if_neg z2, if_neg z3]⟩
    case hd2 =>
      rintro lo2 ao2 co2 vi2 vj2 h tk hlo3 hr2 F4 N4
      k_steps
      exact turn_end [_, _] (by assumption) (news_tor N4) (ne_two (hr2 _ (.tail _ (.head _))) (hne2 _ (.head _))) ⟨⟨_, _, _, rfl, acc_step' hc hlo hlo3, rfl, all1 (hr2 _ (.head _))⟩, fun z z1 z2 z3 => by simp only [Mine.put, if_neg z1, if_neg z2, if_neg z3]⟩
  case hd =>
    rintro lo ao co vi vj h tk hlo hr1 F2 N2
    k_steps
    exact hret _ _ _ (Fr.keep (by assumption)) ⟨ao, co, lo, rfl, News.fresh N2 (.head _), News.get (by assumption) (.head _), by rw [hlo]; rfl⟩
end
end Mine

namespace Mine
/-- the end of a turn, with the count of the tokens -/
def TokEnd (h₀ : Heap) (L : Addr) (J : Nat → (Str → Option Value) → List (Addr × Obj) → Prop) (I : Addr) (oI : Obj) (s₁ : Shared) (f : Flow) (s₂ : Shared) : Prop :=
  f = .next ∧ ∃ h' tk m' nx, s₂ = { s₁ with heap := h', toks := tk } ∧ Fr h₀ L h' m' ∧ News h₀ L h' ((I, oI) :: nx) ∧ (∀ p ∈ nx, p.1 ≠ I) ∧ J tk m' nx
section
variable {prog : Program} {w : World} {A : Around} {s : Shared} {env : Env} {h₀ : Heap}
theorem forLoop_tok {R : Result → Shared → Prop} {x : Str} {px : Pos} {body : List Stmt} {I : Addr} {n : Nat} {a₀ : Int} {m : Str → Option Value} {news : List (Addr × Obj)}
    (hh : A.handled = none) (hx : env.kindOf x = some .local)
    (hp : (env.scope.kind == .class || (env.scope.kind == .module && env.locals != env.globals)) = false)
    (hLI : env.locals ≠ I) (hI0 : h₀.get? I = none) (hnI : ∀ p ∈ news, p.1 ≠ I) (hst : IsRangeIter s.heap I a₀ n 1) (F : Fr h₀ env.locals s.heap m) (N : News h₀ env.locals s.heap news)
    (J : Nat → Nat → (Str → Option Value) → List (Addr × Obj) → Prop) (mono : ∀ i a b m nx, a ≤ b → J i a m nx → J i b m nx) (h0 : J 0 s.toks m news)
    (step : ∀ i t m₁ nx h tk oI, i < n → J i tk m₁ nx → (∀ p ∈ nx, p.1 ≠ I) → Fr h₀ env.locals h (fun y => if y = x then some (.int (a₀ + (i : Int)) t) else m₁ y) → News h₀ env.locals h ((I, oI) :: nx) →
      wpAny (model prog w) A (execs body env) (TokEnd h₀ env.locals (J (i + 1)) I oI { s with heap := h, toks := tk }) (notedBy (model prog w) A env fun e s' => R (.error e) s') { s with heap := h, toks := tk })
    (hR : ∀ h' tk m' news', Fr h₀ env.locals h' m' → News h₀ env.locals h' news' → J n tk m' news' → R (.ok .next) { s with heap := h', toks := tk }) :
    codeAny (model prog w) A (.forLoop (.Name x px) (.ref I) body [] env) R s := by
  have W : Walks prog w A I [I] [I] n (fun i v => i < n ∧ ∃ t, v = .int (a₀ + i * 1) t)
      (fun i h => IsRangeIter h I (a₀ + (i : Nat) * 1) ((n : Int) - (i : Nat)) 1) := (Walks.range hh _ a₀ 1 n).bound
  have old : ∀ b o, h₀.get? b = some o → b ∉ [I] := fun b o e hb => by rw [List.mem_singleton.mp hb, hI0] at e; cases e
  have hLw : env.locals ∉ [I] := fun h => hLI (List.mem_singleton.mp h)
  refine codeAny_forLoop
    (fun k s' => ∃ h' tk m' news' i, s' = { s with heap := h', toks := tk } ∧ IsRangeIter h' I (a₀ + (i : Nat) * 1) ((n : Int) - (i : Nat)) 1 ∧ Fr h₀ env.locals h' m' ∧ News h₀ env.locals h' news' ∧ (∀ p ∈ news', p.1 ≠ I) ∧ J i tk m' news' ∧ i ≤ n ∧ k = n + 1 - i) ?_ (n + 1)
    ⟨s.heap, s.toks, m, news, 0, rfl, by simpa using hst, F, N, hnI, h0, Nat.zero_le _, rfl⟩
  rintro k s' ⟨h', tk, m', news', i, rfl, hst', F', N', hnw', hJ, hi, rfl⟩
  have next : ∀ h₁ : Heap, (∀ b o, b ∉ [I] → h'.get? b = some o → h₁.get? b = some o) → Fr h₀ env.locals h₁ m' ∧ News h₀ env.locals h₁ news' := fun h₁ hk₁ =>
    ⟨⟨F'.ns.at' fun o e => hk₁ _ o hLw e, fun b o e => hk₁ b o (old b o e) (F'.keep b o e), F'.above⟩, fun p hp => ⟨hk₁ _ _ (fun h => hnw' p hp (List.mem_singleton.mp h)) (N' p hp).1, (N' p hp).2⟩⟩
  by_cases hlt : i < n
  · refine any_toksQ (W.item i _ _ _ hlt hst' fun v h₁ tk₁ hP hst₁ hk₁ hle => ?_)
    obtain ⟨F₁, N₁⟩ := next h₁ hk₁
    obtain ⟨_, t, rfl⟩ := hP
    refine wpAny_assign_Name (wpAny_storeName_local hx F₁.ns (fun h₂ hn₂ hs₂ => ?_) hp)
    have F₂ := F₁.set hn₂ hs₂
    have hI₂ : ∃ oI, h₂.get? I = some oI := ⟨_, (hs₂.2 I fun q => hLI q.symm).trans hst₁⟩
    obtain ⟨oI, hoI⟩ := hI₂
    have N₂ : News h₀ env.locals h₂ ((I, oI) :: news') := fun p hp => by
      rcases List.mem_cons.mp hp with rfl | hp
      · exact ⟨hoI, fun q => hLI q.symm, hI0⟩
      · exact (N₁.set hs₂) p hp
    have hst₂ : IsRangeIter h₂ I (a₀ + ((i + 1 : Nat) : Int) * 1) ((n : Int) - ((i + 1 : Nat) : Int)) 1 := W.frame (i + 1) _ _ hst₁ fun b hb o e => (hs₂.2 b fun q => hLI (by rw [← List.mem_singleton.mp hb]; exact q.symm)).trans e
    rw [Int.mul_one] at F₂
    refine wpAny_mono (step i t m' news' _ _ oI hlt (mono _ _ _ _ _ (Nat.le_succ_of_le hle) hJ) hnw' F₂ N₂) (fun f s₃ h₃ => ?_) fun _ _ e => e
    obtain ⟨rfl, h₃', tk₃, m₂, news₂, rfl, F₃, N₃, ha₃, hJ₃⟩ := h₃
    refine ⟨n + 1 - (i + 1), by lia, h₃', tk₃, m₂, news₂, i + 1, rfl, ?_, F₃, fun p hp => N₃ p (.tail _ hp), ha₃, hJ₃, hlt, rfl⟩
    have e1 := (N₃ _ (.head _)).1
    have e2 : h₂.get? I = some oI := hoI
    have e3 : h₃'.get? I = h₂.get? I := e1.trans e2.symm
    show h₃'.get? I = _
    rw [e3]; exact hst₂
  · have hin : i = n := by lia
    subst hin
    refine any_toksQ (W.done _ _ _ hst' fun h₁ tk₁ hk₁ hle => wpAny_execs_nil ?_)
    obtain ⟨F₁, N₁⟩ := next h₁ hk₁
    exact hR h₁ tk₁ m' news' F₁ N₁ (mono _ _ _ _ _ hle hJ)
/-- what the loop over k asks at its iterator -/
def LoopTok (prog : Program) (w : World) (A : Around) (h₀ : Heap) (env : Env) (x : Str) (px : Pos) (body : List Stmt) (Q : Flow → Shared → Prop) (E : Value → Shared → Prop) (it : Value) (s₂ : Shared) : Prop :=
  ∃ (I : Addr) (n : Nat) (a₀ : Int) (m : Str → Option Value) (news : List (Addr × Obj)) (J : Nat → Nat → (Str → Option Value) → List (Addr × Obj) → Prop),
    it = .ref I ∧ A.handled = none ∧ env.locals ≠ I ∧ h₀.get? I = none ∧ (∀ p ∈ news, p.1 ≠ I) ∧ IsRangeIter s₂.heap I a₀ n 1 ∧ Fr h₀ env.locals s₂.heap m ∧ News h₀ env.locals s₂.heap news ∧
    (∀ i a b m nx, a ≤ b → J i a m nx → J i b m nx) ∧ J 0 s₂.toks m news ∧
    (∀ i t m₁ nx h tk oI, i < n → J i tk m₁ nx → (∀ p ∈ nx, p.1 ≠ I) → Fr h₀ env.locals h (fun y => if y = x then some (.int (a₀ + (i : Int)) t) else m₁ y) → News h₀ env.locals h ((I, oI) :: nx) →
      wpAny (model prog w) A (execs body env) (TokEnd h₀ env.locals (J (i + 1)) I oI { s₂ with heap := h, toks := tk }) E { s₂ with heap := h, toks := tk }) ∧
    ∀ h' tk m' news', Fr h₀ env.locals h' m' → News h₀ env.locals h' news' → J n tk m' news' → Q .next { s₂ with heap := h', toks := tk }
theorem For_tok {E : Value → Shared → Prop} {Q : Flow → Shared → Prop} {x : Str} {px pos : Pos} {iter : PySem.Expr} {body : List Stmt} {m : Str → Option Value} (_F : Fr h₀ env.locals s.heap m) (hx : env.kindOf x = some .local)
    (hp : (env.scope.kind == .class || (env.scope.kind == .module && env.locals != env.globals)) = false)
    (h : wpAny (model prog w) A (eval iter env) (fun xv s₁ => wpAny (model prog w) A (pyIter xv) (fun it s₂ => LoopTok prog w A h₀ env x px body Q E it s₂) E s₁) E s)
    (hs : ∀ x, foldedSetIterable iter env x = pure x := by intro _; rfl)
    (hE : PassesOwn (model prog w) A env E := by passes_own) :
    wpAny (model prog w) A (exec (.For (.Name x px) iter body [] pos) env) Q E s := by
  refine wpAny_For (wpAny_mono h (fun xv s₁ h₁ => wpAny_mono h₁ (fun it s₂ h₂ => ?_) fun _ _ e => e) fun _ _ e => e) hs
  obtain ⟨I, n, a₀, m, news, J, rfl, hh, hLI, hI0, hnI, hst, F, N, mono, h0, step, hQ⟩ := h₂
  exact forLoop_tok (R := fun r s' => match r with | .ok f => Q f s' | .error e => cameBackBy (model prog w) A env E e s') hh hx hp hLI hI0 hnI hst F N J mono h0 (by intros; exact wpAny_passesOwn hE (by apply step <;> assumption)) hQ
end
end Mine

namespace Mine
theorem str_nil_add {x y : Str} (h : x.length = 0) : x ++ y = y := by
  obtain ⟨a⟩ := x
  obtain ⟨b⟩ := y
  have : a = #[] := Array.eq_empty_of_size_eq_zero h
  subst this
  show Str.mk (#[] ++ b) = ⟨b⟩
  simp
theorem str_add_nil {x y : Str} (h : y.length = 0) : x ++ y = x := by
  obtain ⟨a⟩ := x
  obtain ⟨b⟩ := y
  have : b = #[] := Array.eq_empty_of_size_eq_zero h
  subst this
  show Str.mk (a ++ #[]) = ⟨a⟩
  simp
theorem two_len (n : Nat) (h : n ≤ 3) : (Builtin.Str.strSliceIndices none (some 2) 1 n).length ≤ 2 := by
  have h4 : ∀ k : Fin 4, (Builtin.Str.strSliceIndices none (some 2) 1 k.val).length ≤ 2 := by decide +kernel
  exact h4 ⟨n, by lia⟩
section
variable {prog : Program} {w : World} {A : Around} {E : Value → Shared → Prop} {s : Shared} {h₀ : Heap} {L a b d : Addr} {m : Str → Option Value} {news : List (Addr × Obj)} {Q : Value → Shared → Prop}
/-- an item of a list of short texts -/
theorem text_item {value slice : PySem.Expr} {k : Int} {u : Tok} {l : List (Str × Tok)} {lo b : Nat} (hl : s.heap.IsList a (strValues l).toArray) (h0 : 0 ≤ k) (h1 : k < l.length) (hz : l.length ≤ 100) (hq : ∀ q ∈ l, q.1.length ≤ b ∧ lo ≤ q.2 ∧ @LT.lt Nat instLTNat q.2 s.toks)
    (h : ∀ (y : Str) (t : Nat), y.length ≤ b → lo ≤ t → t < s.toks → Q (.str y t) s)
    (hs : subscripted slice false (.ref a) (.int k u) = operate [.ref a, .int k u] (getItem (.ref a) (.int k u)) := by with_unfolding_all rfl) :
    wpAny (model prog w) A (subscriptTail value slice (.ref a) (.int k u)) Q E s := by
  have hk : k.toNat < l.length := by lia
  obtain ⟨q1, q2, q3⟩ := hq l[k.toNat] (List.getElem_mem hk)
  exact item_at (q := l[k.toNat]) hl h0 (by lia) (List.getElem?_eq_getElem hk) (h _ _ q1 q2 q3) hs
/-- the sum of two texts, with the token -/
theorem text_add {x y : Str} {t u : Tok} {lo : Nat} (hx : x.length ≤ 1000) (hy : y.length ≤ 1000) (ht : lo ≤ t ∧ @LT.lt Nat instLTNat t s.toks) (hu : lo ≤ u ∧ @LT.lt Nat instLTNat u s.toks)
    (h : ∀ (v k : Nat), lo ≤ v → v < k → s.toks ≤ k → Q (.str (x ++ y) v) { s with toks := k }) : wpAny (model prog w) A (binaryOp .Add (.str x t) (.str y u)) Q E s := by
  refine PySem.P.add_str ?_
  split
  · rename_i e
    have e1 : x ++ y = y := str_nil_add (by simpa using e)
    have := h u s.toks hu.1 hu.2 (Nat.le_refl _)
    rw [e1] at this; exact this
  · split
    · rename_i e
      have e1 : x ++ y = x := str_add_nil (by simpa using e)
      have := h t s.toks ht.1 ht.2 (Nat.le_refl _)
      rw [e1] at this; exact this
    · refine ⟨by rw [Str.length_append, sizeLine_eq]; lia, h s.toks (s.toks + 1) (Nat.le_of_lt (Nat.lt_of_le_of_lt ht.1 ht.2)) (Nat.lt_succ_self _) (Nat.le_succ _)⟩
/-- the first two signs of a text, with the token -/
theorem text_two {x : Str} {t : Tok} {u : Tok} {a : Addr} {lo : Nat} (hsl : s.heap.IsSlice a none (some (2, u)) none) (hx : x.length ≤ 3) (ht : lo ≤ t ∧ @LT.lt Nat instLTNat t s.toks)
    (h : ∀ (z : Str) (v k : Nat), z.length ≤ 2 → lo ≤ v → v < k → s.toks ≤ k → Q (.str z v) { s with toks := k }) : wpAny (model prog w) A (getItem (.str x t) (.ref a)) Q E s := by
  refine wpAny_getItem_str_slice hsl rfl ?_
  have h2 : (PySem.slicePicked x none (some (2, u)) none).length ≤ 2 := two_len x.length hx
  unfold sliceMade
  split
  · rename_i e
    have e1 : (PySem.slicePicked x none (some (2, u)) none).length = x.length := by simpa using e
    exact h x t s.toks (by lia) ht.1 ht.2 (Nat.le_refl _)
  · have h3 : (((PySem.slicePicked x none (some (2, u)) none).filterMap (x.cps[·]?)).toArray).size ≤ 2 := by
      rw [List.size_toArray]
      exact Nat.le_trans (List.length_filterMap_le ..) h2
    exact ⟨by rw [sizeLine_eq]; exact Nat.le_trans h3 (by decide), h _ s.toks (s.toks + 1) h3 (Nat.le_of_lt (Nat.lt_of_le_of_lt ht.1 ht.2)) (Nat.lt_succ_self _) (Nat.le_succ _)⟩
/-- one sign of a text, with the token -/
theorem key_item {x : Str} {t u : Tok} {i : Int} (h0 : 0 ≤ i) (h1 : i < x.length) (hx : x.length ≤ 1000) (h : ∀ c : Nat, Q (.str ⟨#[c]⟩ s.toks) { s with toks := s.toks + 1 })
    : wpAny (model prog w) A (getItem (.str x t) (.int i u)) Q E s := by
  refine PySem.P.getItem_str (c := x.cps[i.toNat]'(by show i.toNat < x.length; lia)) ?_ ?_ (h _)
  · simp; lia
  · rw [seqIndex_of h0 h1]
    simp
theorem text_two_tail {value slice : PySem.Expr} {x : Str} {t : Tok} {u : Tok} {lo : Nat} (F : Fr h₀ L s.heap m) (N : News h₀ L s.heap news) (hx : x.length ≤ 3) (ht : lo ≤ t ∧ @LT.lt Nat instLTNat t s.toks)
    (h : ∀ (z : Str) (v k : Nat) (h' : Heap), Fr h₀ L h' m → News h₀ L h' news → z.length ≤ 2 → lo ≤ v → v < k → s.toks ≤ k → Q (.str z v) { s with heap := h', toks := k })
    (hs : subscripted slice false (.str x t) (.ref s.heap.objs.size) = operate [.ref s.heap.objs.size, .str x t] (getItem (.str x t) (.ref s.heap.objs.size)) := by with_unfolding_all rfl) :
    wpAny (model prog w) A (subscriptTail value slice (.str x t) (.ref s.heap.objs.size)) Q E { s with heap := s.heap.push { cls := .type "slice", data := .fields #[.none, .int 2 u, .none] } } :=
  tail_any (typeIs_str _ x t) slot_str_getitem.lookup (text_two (s := { s with heap := s.heap.push { cls := .type "slice", data := .fields #[.none, .int 2 u, .none] } }) (Heap.IsSliceOf.new ..) hx ht (fun z v k a b c e => h z v k _ (F.push _) (N.grown fun _ _ e => Heap.get?_push_of_some _ e) a b c e)) hs
theorem key_item_tail {value slice : PySem.Expr} {x : Str} {t u : Tok} {i : Int} (h0 : 0 ≤ i) (h1 : i < x.length) (hx : x.length ≤ 1000) (h : ∀ c : Nat, Q (.str ⟨#[c]⟩ s.toks) { s with toks := s.toks + 1 })
    (hs : subscripted slice false (.str x t) (.int i u) = operate [.str x t, .int i u] (getItem (.str x t) (.int i u)) := by with_unfolding_all rfl) :
    wpAny (model prog w) A (subscriptTail value slice (.str x t) (.int i u)) Q E s :=
  tail_any (typeIs_str _ x t) slot_str_getitem.lookup (key_item h0 h1 hx h) hs
theorem set_tab {od : Obj} {T : List TE} {x y : Str} {t u : Tok} {Q : Unit → Shared → Prop} (F : Fr h₀ L s.heap m) (N : News h₀ L s.heap news) (hp : (d, od) ∈ news) (r : TabRaw prog w od T) (hT : T.length ≤ 3)
    (h : ∀ h' od', TabRaw prog w od' (storeT T x t y u) → Fr h₀ L h' m → (∀ p ∈ news, p.1 ≠ d → h'.get? p.1 = some p.2 ∧ p.1 ≠ L ∧ h₀.get? p.1 = none) → (h'.get? d = some od' ∧ d ≠ L ∧ h₀.get? d = none) → Q () { s with heap := h', toks := s.toks + 1 }) :
    wpAny (model prog w) A (setItem (.ref d) (.str x t) (.str y u)) Q E s := by
  obtain ⟨n1, n2, n3⟩ := N _ hp
  refine raw_set n1 r (fun h' od' a b c => h h' od' b ?_ (fun p hp hpd => ⟨(c.2 p.1 hpd).trans (N p hp).1, (N p hp).2⟩) ⟨a, n2, n3⟩) (by lia)
  refine ⟨F.ns.at' fun o e => (c.2 L fun q => n2 q.symm).trans e, fun b o e => (c.2 b fun q => ?_).trans (F.keep b o e), F.above⟩
  rw [q] at e
  rw [show h₀.get? d = none from n3] at e; cases e
end
end Mine

namespace Mine
theorem TabRaw.of_empty {prog : Program} {w : World} {o : Obj} (h : o.IsDictOf (PySem.strKind prog w) []) : TabRaw prog w o [] := by
  obtain ⟨es, ep, h1, h2, h3, h4, _⟩ := h
  refine ⟨es, ep, h1, h2, h3, ?_, List.nodup_nil⟩
  cases e : es.toList with
  | nil => rfl
  | cons a b => rw [e] at h4; cases h4
/-- the entries so far: keys of one sign, short texts, tokens below the count -/
def GoodE (T : List TE) (tk : Nat) : Prop := ∀ q ∈ T, (∃ c, q.x = ⟨#[c]⟩) ∧ q.y.length ≤ 5 ∧ q.Ok ∧ q.t < tk ∧ q.u < tk
theorem GoodE.more {T : List TE} {a b : Nat} (h : GoodE T a) (hab : a ≤ b) : GoodE T b := fun q hq => have g := h q hq; ⟨g.1, g.2.1, g.2.2.1, Nat.lt_of_lt_of_le g.2.2.2.1 hab, Nat.lt_of_lt_of_le g.2.2.2.2 hab⟩
theorem storeT_good {T : List TE} {tk tk' : Nat} {c : Nat} {t : Tok} {y : Str} {u : Tok} (h : GoodE T tk) (hy : y.length ≤ 5) (hu' : @LT.lt Nat instLTNat tk u) (hut : @LT.lt Nat instLTNat u t) (ht : @LT.lt Nat instLTNat t tk') : GoodE (storeT T ⟨#[c]⟩ t y u) tk' := by
  have hu : @LE.le Nat instLENat tk u := Nat.le_of_lt hu'
  have h0 : @LT.lt Nat instLTNat 0 u := Nat.lt_of_le_of_lt (Nat.zero_le _) hu'
  have old : GoodE T tk' := h.more (Nat.le_of_lt (Nat.lt_of_le_of_lt hu (Nat.lt_trans hut ht)))
  unfold storeT
  split
  · intro q hq
    obtain ⟨p, hp, rfl⟩ := List.mem_map.mp hq
    obtain ⟨g1, g2, g3, g4, g5⟩ := old p hp
    obtain ⟨_, _, _, k4, k5⟩ := h p hp
    unfold putT
    split
    · refine ⟨g1, hy, ⟨g3.1, Nat.ne_of_gt h0, Nat.ne_of_lt (Nat.lt_of_lt_of_le k4 hu)⟩, g4, Nat.lt_trans hut ht⟩
    · exact ⟨g1, g2, g3, g4, g5⟩
  · intro q hq
    rcases List.mem_append.mp hq with hq | hq
    · exact old q hq
    · rw [List.mem_singleton.mp hq]
      exact ⟨⟨c, rfl⟩, hy, ⟨Nat.ne_of_gt (Nat.lt_of_le_of_lt (Nat.zero_le _) hut), Nat.ne_of_gt h0, Nat.ne_of_gt hut⟩, ht, Nat.lt_trans hut ht⟩
theorem storeT_len (T : List TE) (x : Str) (t : Tok) (y : Str) (u : Tok) : (storeT T x t y u).length ≤ T.length + 1 := by
  unfold storeT
  split
  · rw [List.length_map]; exact Nat.le_succ _
  · rw [List.length_append]; exact Nat.le_refl _
/-- the turns of the loop over k -/
def TabJ (prog : Program) (w : World) (d : Addr) (rest : List (Addr × Obj)) (m₀ : Str → Option Value) (i tk : Nat) (m : Str → Option Value) (nx : List (Addr × Obj)) : Prop :=
  (∃ od T, nx = (d, od) :: rest ∧ TabRaw prog w od T ∧ T.length ≤ i ∧ GoodE T tk) ∧ (0 < i → 0 < tk) ∧ ∀ z, z ≠ Str.ofString "k" → z ≠ Str.ofString "number" → z ≠ Str.ofString "texts" → m z = m₀ z
section
variable {prog : Program} {w : World} {A : Around} {E : Value → Shared → Prop} {s : Shared} {env : Env} {h₀ : Heap} {body : List Stmt} {Q : Flow → Shared → Prop}
theorem tab_fr {m₁ m₀ : Str → Option Value} (ho : ∀ z, z ≠ Str.ofString "k" → z ≠ Str.ofString "number" → z ≠ Str.ofString "texts" → m₁ z = m₀ z) (z : Str) (z0 : z ≠ Str.ofString "k") :
    (if z = Str.ofString "number" then m₁ (Str.ofString "number") else if z = Str.ofString "texts" then m₁ (Str.ofString "texts") else m₀ z) = m₁ z := by
  by_cases z1 : z = Str.ofString "number"
  · rw [if_pos z1, z1]
  rw [if_neg z1]
  by_cases z2 : z = Str.ofString "texts"
  · rw [if_pos z2, z2]
  rw [if_neg z2, ho z z0 z1 z2]
theorem loop_tab {r d : Addr} {px : Pos} {t₀ u₀ v₀ : Tok} {od : Obj} {rest : List (Addr × Obj)} {m₀ : Str → Option Value}
    (hh : A.handled = none) (hr : IsRange s.heap r 0 3 1 t₀ u₀ v₀) (F : Fr h₀ env.locals s.heap m₀) (N : News h₀ env.locals s.heap ((d, od) :: rest)) (hraw : TabRaw prog w od [])
    (turn : ∀ (i : Nat) (t : Tok) (od : Obj) (T : List TE) (vn vt : Option Value) (h : Heap) (tk : Nat) (I : Addr) (oI : Obj), i < 3 → T.length ≤ i → GoodE T tk → TabRaw prog w od T → d ≠ I → (∀ p ∈ rest, p.1 ≠ I) →
      Fr h₀ env.locals h (fun z => if z = Str.ofString "k" then some (.int (0 + (i : Int)) t) else if z = Str.ofString "number" then vn else if z = Str.ofString "texts" then vt else m₀ z) → News h₀ env.locals h ((I, oI) :: (d, od) :: rest) →
      wpAny (model prog w) A (execs body env) (TokEnd h₀ env.locals (TabJ prog w d rest m₀ (i + 1)) I oI { s with heap := h, toks := tk }) E { s with heap := h, toks := tk })
    (done : ∀ (od : Obj) (T : List TE) (vk vn vt : Option Value) (h : Heap) (tk : Nat), T.length ≤ 3 → GoodE T tk → TabRaw prog w od T → 0 < tk →
      Fr h₀ env.locals h (fun z => if z = Str.ofString "k" then vk else if z = Str.ofString "number" then vn else if z = Str.ofString "texts" then vt else m₀ z) → News h₀ env.locals h ((d, od) :: rest) → Q .next { s with heap := h, toks := tk }) :
    wpAny (model prog w) A (pyIter (.ref r)) (fun it s₂ => LoopTok prog w A h₀ env (Str.ofString "k") px body Q E it s₂) E s := by
  refine wpAny_pyIter_range hr (small_one (by lia) (by lia) (by lia) (by lia)) ?_
  refine ⟨s.heap.objs.size, 3, 0, m₀, (d, od) :: rest, TabJ prog w d rest m₀, rfl, hh, ?_, next_is_new F, fun p hp => Nat.ne_of_lt (Heap.lt_size (N p hp).1), ?_, F.push _, fun p hp => ⟨Heap.get?_push_of_some _ (N p hp).1, (N p hp).2⟩, ?_, ?_, ?_, ?_⟩
  · exact Nat.ne_of_lt F.ns.lt
  · show IsRangeIter _ _ _ _ _
    rw [show Builtin.Range.rangeSize 0 3 1 = 3 from by rw [rangeSize_one]; decide]
    exact Heap.get?_push_size _ rfl
  · rintro i a b m nx hab ⟨⟨od, T, h1, h2, h3, h4⟩, h5, h6⟩
    exact ⟨⟨od, T, h1, h2, h3, h4.more hab⟩, fun q => Nat.lt_of_lt_of_le (h5 q) hab, h6⟩
  · exact ⟨⟨od, [], rfl, hraw, Nat.le_refl _, fun q hq => nomatch hq⟩, fun q => absurd q (Nat.lt_irrefl _), fun _ _ _ _ => rfl⟩
  · rintro i t m₁ nx h tk oI hi ⟨⟨od, T, rfl, h2, h3, h4⟩, h5, ho⟩ hne F₁ N₁
    refine turn i t od T (m₁ (Str.ofString "number")) (m₁ (Str.ofString "texts")) h tk _ oI hi h3 h4 h2 (hne _ (.head _)) (fun p hp => hne p (.tail _ hp)) ?_ N₁
    have e : (fun z => if z = Str.ofString "k" then some (Value.int (0 + (i : Int)) t) else if z = Str.ofString "number" then m₁ (Str.ofString "number") else if z = Str.ofString "texts" then m₁ (Str.ofString "texts") else m₀ z) = fun z => if z = Str.ofString "k" then some (Value.int (0 + (i : Int)) t) else m₁ z := by
      funext z
      by_cases z0 : z = Str.ofString "k"
      · rw [if_pos z0, if_pos z0]
      · rw [if_neg z0, if_neg z0]; exact tab_fr ho z z0
    rw [e]; exact F₁
  · rintro h tk m₁ nx F₁ N₁ ⟨⟨od, T, rfl, h2, h3, h4⟩, h5, ho⟩
    refine done od T (m₁ (Str.ofString "k")) (m₁ (Str.ofString "number")) (m₁ (Str.ofString "texts")) h tk h3 h4 h2 (h5 (by decide)) ?_ N₁
    have e : (fun z => if z = Str.ofString "k" then m₁ (Str.ofString "k") else if z = Str.ofString "number" then m₁ (Str.ofString "number") else if z = Str.ofString "texts" then m₁ (Str.ofString "texts") else m₀ z) = m₁ := by
      funext z
      by_cases z0 : z = Str.ofString "k"
      · rw [if_pos z0, z0]
      · rw [if_neg z0]; exact tab_fr ho z z0
    rw [e]; exact F₁
end
/-- what stands for `number`: any int -/
def NumEnd (h₀ : Heap) (L : Addr) (m : Str → Option Value) (news : List (Addr × Obj)) (s : Shared) (v : Value) (s' : Shared) : Prop :=
  ∃ n t h' k, v = .int n t ∧ s' = { s with heap := h', toks := k } ∧ Fr h₀ L h' m ∧ News h₀ L h' news
theorem news_tail {h₀ h : Heap} {L : Addr} {a : Addr × Obj} {news : List (Addr × Obj)} (N : News h₀ L h (a :: news)) : News h₀ L h news := fun p hp => N p (.tail _ hp)
theorem cut_num {M : Model} {A : Around} {t : Sem Value} {Q E : Value → Shared → Prop} {s : Shared} {h₀ : Heap} {L : Addr} {m : Str → Option Value} {news : List (Addr × Obj)} (F : Fr h₀ L s.heap m) (N : News h₀ L s.heap news)
    (h1 : wpAny M A t (NumEnd h₀ L m news s) E s) (h2 : ∀ n tt h' k, Fr h₀ L h' m → News h₀ L h' news → s.toks ≤ k → Q (.int n tt) { s with heap := h', toks := k }) : wpAny M A t Q E s := by
  have _ := F
  have _ := N
  refine any_toksQ (wpAny_mono h1 (fun v s' hv hle => ?_) fun _ _ e => e)
  obtain ⟨n, t, h', k, rfl, rfl, F', N'⟩ := hv
  exact h2 n t h' k F' N' hle
theorem keys_len : (Str.ofString "wu/.a&;v").length = 8 := by decide +kernel
def Past : Prop := True
def Past2 : Prop := True
theorem texts_ok {lo k : Nat} (hk : lo ≤ k + 1) (K : Nat) (hK : k + 9 ≤ K) : ∀ q ∈ [(Str.ofString "u", k + 1), (Str.ofString "../", k + 1 + 1), (Str.ofString "", k + 1 + 1 + 1), (Str.ofString "/", k + 1 + 1 + 1 + 1), (Str.ofString "a", k + 1 + 1 + 1 + 1 + 1), (Str.ofString "v", k + 1 + 1 + 1 + 1 + 1 + 1), (Str.ofString ".", k + 1 + 1 + 1 + 1 + 1 + 1 + 1), (Str.ofString "w", k + 1 + 1 + 1 + 1 + 1 + 1 + 1 + 1)], q.1.length ≤ 3 ∧ lo ≤ q.2 ∧ @LT.lt Nat instLTNat q.2 K := by
  have e : ∀ s ∈ [Str.ofString "u", Str.ofString "../", Str.ofString "", Str.ofString "/", Str.ofString "a", Str.ofString "v", Str.ofString ".", Str.ofString "w"], s.length ≤ 3 := by decide +kernel
  simp only [List.forall_mem_cons] at e ⊢
  obtain ⟨e1, e2, e3, e4, e5, e6, e7, e8, _⟩ := e
  have l : ∀ i, 1 ≤ i → lo ≤ k + i := fun i hi => Nat.le_trans hk (Nat.add_le_add_left hi k)
  have h : ∀ i, i < 9 → k + i < K := fun i hi => Nat.lt_of_lt_of_le (Nat.add_lt_add_left hi k) hK
  exact ⟨⟨e1, l 1 (by decide), h 1 (by decide)⟩, ⟨e2, l 2 (by decide), h 2 (by decide)⟩, ⟨e3, l 3 (by decide), h 3 (by decide)⟩, ⟨e4, l 4 (by decide), h 4 (by decide)⟩, ⟨e5, l 5 (by decide), h 5 (by decide)⟩, ⟨e6, l 6 (by decide), h 6 (by decide)⟩, ⟨e7, l 7 (by decide), h 7 (by decide)⟩, ⟨e8, l 8 (by decide), h 8 (by decide)⟩, fun _ h => nomatch h⟩
theorem tab_news {h₀ h' : Heap} {L d I : Addr} {od' oI : Obj} {news rest : List (Addr × Obj)} (keep : ∀ p ∈ news, p.1 ≠ d → h'.get? p.1 = some p.2 ∧ p.1 ≠ L ∧ h₀.get? p.1 = none) (dn : h'.get? d = some od' ∧ d ≠ L ∧ h₀.get? d = none)
    (hI : (I, oI) ∈ news) (hdI : d ≠ I) (hr : ∀ p ∈ rest, p ∈ news) (hrd : ∀ p ∈ rest, p.1 ≠ d) : News h₀ L h' ((I, oI) :: (d, od') :: rest) := fun p hp => by
  rcases List.mem_cons.mp hp with rfl | hp
  · exact keep _ hI hdI.symm
  rcases List.mem_cons.mp hp with rfl | hp
  · exact dn
  · exact keep p (hr p hp) (hrd p hp)
theorem tab_end {prog : Program} {w : World} {h₀ h' : Heap} {L d I : Addr} {oI : Obj} {rest : List (Addr × Obj)} {m₀ m' : Str → Option Value} {i tk' : Nat} {s₁ : Shared} {od' : Obj} {T : List TE} (F : Fr h₀ L h' m') (N : News h₀ L h' ((I, oI) :: (d, od') :: rest)) (hne : ∀ p ∈ rest, p.1 ≠ I) (hdI : d ≠ I)
    (r : TabRaw prog w od' T) (hl : T.length ≤ i) (hg : GoodE T tk') (h0 : 0 < tk') (ho : ∀ z, z ≠ Str.ofString "k" → z ≠ Str.ofString "number" → z ≠ Str.ofString "texts" → m' z = m₀ z) :
    TokEnd h₀ L (TabJ prog w d rest m₀ i) I oI s₁ .next { s₁ with heap := h', toks := tk' } :=
  ⟨rfl, h', tk', m', (d, od') :: rest, rfl, F, N, fun p hp => by
    rcases List.mem_cons.mp hp with rfl | hp
    · exact hdI
    · exact hne p hp, ⟨od', T, rfl, r, hl, hg⟩, fun _ => h0, ho⟩
theorem fmod8 (n : Int) : 0 ≤ n.fmod 8 ∧ n.fmod 8 < 8 := by
  rw [Int.fmod_eq_emod_of_nonneg n (by decide)]; lia
end Mine

namespace Mine
/-- the signs of a list of texts, one behind the other -/
def catL (L : List Str) : List Nat := L.flatMap (fun s => s.cps.toList)
theorem catL_app (a b : List Str) : catL (a ++ b) = catL a ++ catL b := by unfold catL; rw [List.flatMap_append]
theorem catL_flat {α : Type} (g : α → List Str) (l : List α) : catL (l.flatMap g) = l.flatMap (fun d => catL (g d)) := by unfold catL; rw [List.flatMap_assoc]
theorem subst_flat {c : Nat} {zs : List Nat} {g : Nat → List Nat} (l : List Nat) : (subst c zs l).flatMap g = l.flatMap (fun k => (if k = c then zs else [k]).flatMap g) := by unfold subst; rw [List.flatMap_assoc]
theorem repAll_opened : ∀ (D : List (Str × Str)) (x : Str), (∀ p ∈ D, ∃ c, p.1 = ⟨#[c]⟩) → (repAll x D).cps.toList = x.cps.toList.flatMap (fun d => catL (opened ⟨#[d]⟩ D))
  | [], x, _ => by
    show x.cps.toList = _
    have e : (fun d : Nat => catL (opened ⟨#[d]⟩ [])) = fun d => [d] := by funext d; simp [opened, catL]
    rw [e]; simp
  | (k, v) :: r, x, h => by
    obtain ⟨c, hc⟩ := h (k, v) (.head _)
    have hc' : k = ⟨#[c]⟩ := hc
    subst hc'
    have ih := repAll_opened r (Txt.replace x ⟨#[c]⟩ v) fun p hp => h p (.tail _ hp)
    show (repAll (Txt.replace x ⟨#[c]⟩ v) r).cps.toList = _
    rw [ih, replace_subst, subst_flat]
    congr 1
    funext d
    by_cases hd : d = c
    · subst hd
      rw [if_pos rfl, opened, if_pos (by simp), catL_flat]
    · have hn : ¬ ((⟨#[c]⟩ : Str) == ⟨#[d]⟩) = true := by
        intro e
        have := eq_of_beq e
        injection this with this
        simp at this
        exact hd this.symm
      rw [if_neg hd, opened, if_neg hn]; simp
theorem amp_cps : (Str.ofString "&amp;").cps.toList = [38, 97, 109, 112, 59] := by decide +kernel
theorem lt_cps : (Str.ofString "&lt;").cps.toList = [38, 108, 116, 59] := by decide +kernel
theorem three_esc {x : Str} (h : ∀ c ∈ x.cps.toList, c ≠ 62) :
    (Txt.replace (Txt.replace (Txt.replace x (Str.ofString "&") (Str.ofString "&amp;")) (Str.ofString ">") (Str.ofString "&gt;")) (Str.ofString "<") (Str.ofString "&lt;")).cps.toList = x.cps.toList.flatMap (fun c => (threeS c).cps.toList) := by
  rw [sign_amp, sign_gt, sign_lt, replace_subst, replace_subst, replace_subst, amp_cps, lt_cps]
  rw [subst_free 62]
  · unfold subst
    rw [List.flatMap_assoc]
    congr 1
    funext c
    unfold threeS
    by_cases h1 : c = 38
    · subst h1
      rw [if_pos rfl, if_pos rfl, amp_cps]; decide
    · rw [if_neg h1, if_neg h1]
      by_cases h2 : c = 60
      · subst h2
        rw [if_pos rfl, lt_cps]; decide
      · rw [if_neg h2]; simp [h2]
  · intro hm
    unfold subst at hm
    obtain ⟨k, hk, hm⟩ := List.mem_flatMap.mp hm
    by_cases h1 : k = 38
    · rw [if_pos h1] at hm; revert hm; decide
    · rw [if_neg h1] at hm
      exact h k hk (List.mem_singleton.mp hm).symm
/-- escape, told by the signs -/
theorem esc_signs {x : Str} {D : List (Str × Str)} (hk : ∀ p ∈ D, ∃ c, p.1 = ⟨#[c]⟩) (h : ∀ c ∈ x.cps.toList, c ≠ 62) : (escS x D).cps.toList = catL (signsL x D) := by
  unfold escS signsL
  rw [repAll_opened D _ hk, three_esc h, catL_flat, List.flatMap_assoc]
  congr 1
  funext c
  unfold signsC
  rw [catL_flat]
/-- lists of texts of one sign each -/
def Ones (L : List Str) : Prop := ∀ s ∈ L, ∃ c, s = ⟨#[c]⟩
theorem ones_app {a b : List Str} (ha : Ones a) (hb : Ones b) : Ones (a ++ b) := fun s hs => (List.mem_append.mp hs).elim (ha s) (hb s)
theorem ones_flat {α : Type} {g : α → List Str} {l : List α} (h : ∀ d ∈ l, Ones (g d)) : Ones (l.flatMap g) := fun s hs => by
  obtain ⟨d, hd, hs⟩ := List.mem_flatMap.mp hs; exact h d hd s hs
theorem ones_opened : ∀ (D : List (Str × Str)) (c : Nat), Ones (opened ⟨#[c]⟩ D)
  | [], c => fun s hs => ⟨c, List.mem_singleton.mp hs⟩
  | (k, v) :: r, c => by
    rw [opened]
    split
    · exact ones_flat fun d _ => ones_opened r d
    · exact ones_opened r c
theorem ones_signs (x : Str) (D : List (Str × Str)) : Ones (signsL x D) := ones_flat fun c _ => ones_flat fun d _ => ones_opened D d
theorem catL_inj : ∀ {a b : List Str}, Ones a → Ones b → catL a = catL b → a = b
  | [], [], _, _, _ => rfl
  | [], s :: b, _, hb, h => by
    obtain ⟨c, rfl⟩ := hb s (.head _)
    simp [catL] at h
  | s :: a, [], ha, _, h => by
    obtain ⟨c, rfl⟩ := ha s (.head _)
    simp [catL] at h
  | s :: a, s' :: b, ha, hb, h => by
    obtain ⟨c, rfl⟩ := ha s (.head _)
    obtain ⟨d, rfl⟩ := hb s' (.head _)
    have h' : c :: catL a = d :: catL b := by simpa [catL] using h
    injection h' with h1 h2
    rw [h1, catL_inj (fun s hs => ha s (.tail _ hs)) (fun s hs => hb s (.tail _ hs)) h2]
end Mine

namespace Mine
theorem sign_slash : Str.ofString "/" = ⟨#[47]⟩ := by decide +kernel
theorem starts_iff (y : Str) : Txt.startswith y (Str.ofString "/") = true ↔ y.cps.toList[0]? = some 47 := by
  rw [sign_slash, ← StrLaws.subAt_one y 47 0]
  unfold Txt.startswith
  simp
theorem ends_iff (x : Str) : Txt.endswith x (Str.ofString "/") = true ↔ 1 ≤ x.length ∧ x.cps.toList[x.length - 1]? = some 47 := by
  rw [sign_slash, ← StrLaws.subAt_one x 47 (x.length - 1)]
  unfold Txt.endswith
  have e : (⟨#[47]⟩ : Str).length = 1 := rfl
  rw [e]
  simp only [Bool.and_eq_true, decide_eq_true_eq]
  constructor
  · rintro ⟨h1, h2⟩; exact ⟨by lia, by lia, h2⟩
  · rintro ⟨h1, _, h2⟩; exact ⟨by lia, h2⟩
theorem catL_one (c : Nat) (L : List Str) : catL ((⟨#[c]⟩ : Str) :: L) = c :: catL L := by simp [catL]
theorem first_iff {g : List Str} (hg : Ones g) : (catL g)[0]? = some 47 ↔ g.take 1 = [Str.ofString "/"] := by
  cases g with
  | nil => simp [catL]
  | cons s r =>
    obtain ⟨c, rfl⟩ := hg s (.head _)
    rw [catL_one, sign_slash]
    simp
theorem cat_nil_iff {f : List Str} (hf : Ones f) : catL f = [] ↔ f = [] := by
  cases f with
  | nil => simp [catL]
  | cons s r =>
    obtain ⟨c, rfl⟩ := hf s (.head _)
    rw [catL_one]; simp
theorem cat_last {f : List Str} (hf : Ones f) : (catL f)[(catL f).length - 1]? = some 47 ↔ f.getLast? = some (Str.ofString "/") := by
  rcases List.eq_nil_or_concat f with rfl | ⟨r, s, rfl⟩
  · simp [catL]
  · rw [List.concat_eq_append] at *
    obtain ⟨c, rfl⟩ := hf s (List.mem_append_right _ (.head _))
    rw [catL_app, catL_one, List.getLast?_concat, sign_slash]
    have e : catL [] = [] := rfl
    rw [e]
    simp
/-- join, told by the signs -/
theorem join_signs {x y : Str} {f g : List Str} (hf : Ones f) (hg : Ones g) (ex : x.cps.toList = catL f) (ey : y.cps.toList = catL g) : (joinS x y).cps.toList = catL (aheadL f g [Str.ofString "/"] ++ g) := by
  have hl : x.length = (catL f).length := by rw [← ex]; exact str_len x
  unfold joinS aheadL
  by_cases h1 : g.take 1 = [Str.ofString "/"]
  · rw [if_pos ((starts_iff y).mpr (by rw [ey]; exact (first_iff hg).mpr h1)), if_pos h1, ey]; rfl
  rw [if_neg (fun e => h1 ((first_iff hg).mp (by rw [← ey]; exact (starts_iff y).mp e))), if_neg h1]
  by_cases h2 : f = []
  · subst h2
    rw [if_pos (by rw [hl]; rfl), if_pos rfl, ey]; rfl
  have hpos : 0 < (catL f).length := Nat.pos_of_ne_zero fun e => h2 ((cat_nil_iff hf).mp (List.eq_nil_of_length_eq_zero e))
  rw [if_neg (by lia), if_neg h2]
  have h3 : Txt.endswith x (Str.ofString "/") = true ↔ f.getLast? = some (Str.ofString "/") := by
    rw [ends_iff, ← cat_last hf, hl, ex]
    exact ⟨fun h => h.2, fun h => ⟨hpos, h⟩⟩
  by_cases h4 : f.getLast? = some (Str.ofString "/")
  · rw [if_pos (h3.mpr h4), if_pos h4, Str.cps_append, Array.toList_append, ex, ey, catL_app]
  · rw [if_neg (fun e => h4 (h3.mp e)), if_neg h4, Str.cps_append, Str.cps_append, Array.toList_append, Array.toList_append, ex, ey, catL_app, catL_app, sign_slash]
    simp [catL]
end Mine

namespace Mine
theorem signsL_app (a b : Str) (D : List (Str × Str)) : signsL (a ++ b) D = signsL a D ++ signsL b D := by
  unfold signsL; rw [Str.cps_append, Array.toList_append, List.flatMap_append]
/-- what is laid ahead of the second, joined first -/
def otherL (one two : Str) (D : List (Str × Str)) : List Str :=
  if Txt.startswith two (Str.ofString "/") = true ∨ one.length = 0 then []
  else if Txt.endswith one (Str.ofString "/") = true then signsL one D else signsL one D ++ signsL (Str.ofString "/") D
theorem ones_other (one two : Str) (D : List (Str × Str)) : Ones (otherL one two D) := by
  unfold otherL
  split
  · exact fun s hs => nomatch hs
  · split
    · exact ones_signs _ _
    · exact ones_app (ones_signs _ _) (ones_signs _ _)
theorem ones_ahead {f g s : List Str} (hf : Ones f) (hs : Ones s) : Ones (aheadL f g s) := by
  unfold aheadL
  split
  · exact fun s hs => nomatch hs
  · split
    · exact fun s hs => nomatch hs
    · split
      · exact hf
      · exact ones_app hf hs
theorem ones_slash : Ones [Str.ofString "/"] := fun s hs => ⟨47, by rw [List.mem_singleton.mp hs, sign_slash]⟩
/-- escape of the joined programs, told by the signs -/
theorem behind_signs {one two : Str} {D : List (Str × Str)} (hk : ∀ p ∈ D, ∃ c, p.1 = ⟨#[c]⟩) (h1 : ∀ c ∈ one.cps.toList, c ≠ 62) (h2 : ∀ c ∈ two.cps.toList, c ≠ 62) :
    (escS (joinS one two) D).cps.toList = catL (otherL one two D ++ signsL two D) := by
  have h3 : ∀ c ∈ (Str.ofString "/").cps.toList, c ≠ 62 := by rw [sign_slash]; intro c hc; rw [show c = 47 from List.mem_singleton.mp hc]; decide
  have app : ∀ {a b : Str}, (∀ c ∈ a.cps.toList, c ≠ 62) → (∀ c ∈ b.cps.toList, c ≠ 62) → ∀ c ∈ (a ++ b).cps.toList, c ≠ 62 := by
    intro a b ha hb c hc
    rw [Str.cps_append, Array.toList_append] at hc
    rcases List.mem_append.mp hc with h | h
    · exact ha c h
    · exact hb c h
  unfold joinS otherL
  by_cases c1 : Txt.startswith two (Str.ofString "/") = true
  · rw [if_pos c1, if_pos (.inl c1), esc_signs hk h2]; rfl
  rw [if_neg c1]
  by_cases c2 : one.length = 0
  · rw [if_pos (by lia), if_pos (.inr c2), esc_signs hk h2]; rfl
  rw [if_neg (show ¬ (one.length : Int) = 0 by lia), if_neg (show ¬ (Txt.startswith two (Str.ofString "/") = true ∨ one.length = 0) from fun e => e.elim c1 c2)]
  by_cases c3 : Txt.endswith one (Str.ofString "/") = true
  · rw [if_pos c3, if_pos c3, esc_signs hk (app h1 h2), signsL_app]
  · rw [if_neg c3, if_neg c3, esc_signs hk (app h1 (app h3 h2)), signsL_app, signsL_app, List.append_assoc]
/-- the two paths are alike if and only if the same is laid ahead -/
theorem same_iff {x y : Str} {a b g : List Str} (ha : Ones a) (hb : Ones b) (hg : Ones g) (ex : x.cps.toList = catL (a ++ g)) (ey : y.cps.toList = catL (b ++ g)) : (x == y) = decide (a = b) := by
  rw [Bool.eq_iff_iff, beq_iff_eq, decide_eq_true_eq]
  constructor
  · intro h
    rw [h, ey] at ex
    exact (List.append_cancel_right (catL_inj (ones_app hb hg) (ones_app ha hg) ex)).symm
  · intro h
    subst h
    exact Str.ext' (Array.toList_inj.mp (ex.trans ey.symm))
end Mine

namespace Mine
def handF (h s : Str) : Str := if (s != Str.ofString "/") = true then h ++ s else Str.ofString ""
theorem wk_hand (f : Nat) (c : WK) (y : Str) : (wkStep f c y).hand = handF c.hand y := by
  unfold wkStep handF
  by_cases h : (y != Str.ofString "/") = true
  · rw [if_pos h, if_pos h]
  · rw [if_neg h, if_neg h]
    split
    · rfl
    · split
      · rfl
      · split <;> rfl
theorem wk_hands (f : Nat) : ∀ (xs : List Str) (c : WK), (xs.foldl (wkStep f) c).hand = xs.foldl handF c.hand
  | [], _ => rfl
  | y :: xs, c => by rw [List.foldl_cons, List.foldl_cons, wk_hands f xs, wk_hand]
theorem wk_lasts (f : Nat) (c : WK) : (wkStep f c (Str.ofString "/")).last = c.hand := by
  unfold wkStep
  rw [if_neg (by simp)]
  split
  · rfl
  · split
    · rfl
    · split <;> rfl
theorem hand_slashes : ∀ (l : List Str), (∀ s ∈ l, s = Str.ofString "/") → l.foldl handF (Str.ofString "") = Str.ofString ""
  | [], _ => rfl
  | s :: l, h => by
    rw [List.foldl_cons, h s (.head _)]
    have e : handF (Str.ofString "") (Str.ofString "/") = Str.ofString "" := by unfold handF; rw [if_neg (by simp)]
    rw [e]; exact hand_slashes l fun s hs => h s (.tail _ hs)
theorem drop_front (xs : List Str) : xs.drop (frontN xs) = xs.dropWhile (· == Str.ofString "/") := by
  unfold frontN
  conv => lhs; arg 2; rw [← List.takeWhile_append_dropWhile (p := (· == Str.ofString "/")) (l := xs)]
  rw [List.drop_left]
theorem walk_last (xs : List Str) : (walkS xs).2 = xs.foldl handF (Str.ofString "") := by
  show (walkC xs).last = _
  unfold walkC
  rw [List.foldl_append]
  show (wkStep _ _ (Str.ofString "/")).last = _
  rw [wk_lasts, wk_hands, drop_front]
  show (xs.dropWhile (· == Str.ofString "/")).foldl handF (Str.ofString "") = _
  conv => rhs; rw [← List.takeWhile_append_dropWhile (p := (· == Str.ofString "/")) (l := xs)]
  rw [List.foldl_append, hand_slashes (xs.takeWhile (· == Str.ofString "/")) (fun s hs => by
    have := List.all_takeWhile (p := (· == Str.ofString "/")) (l := xs)
    exact eq_of_beq (List.all_eq_true.mp this s hs))]
/-- the piece behind the last slash -/
def pieceN (a : List Nat) (c : Nat) : List Nat := if c = 47 then [] else a ++ [c]
theorem hand_piece : ∀ (L : List Str) (h : Str), Ones L → (L.foldl handF h).cps.toList = (catL L).foldl pieceN h.cps.toList
  | [], _, _ => rfl
  | s :: L, h, ho => by
    obtain ⟨c, rfl⟩ := ho s (.head _)
    rw [List.foldl_cons, catL_one, List.foldl_cons, hand_piece L _ fun s hs => ho s (.tail _ hs)]
    congr 1
    unfold handF pieceN
    rw [sign_slash]
    by_cases hc : c = 47
    · subst hc; simp; decide +kernel
    · have : ((⟨#[c]⟩ : Str) != ⟨#[47]⟩) = true := by simp [hc]
      rw [if_pos this, if_neg hc, Str.cps_append, Array.toList_append]
theorem piece_free : ∀ (b a : List Nat), 47 ∉ b → b.foldl pieceN a = a ++ b
  | [], a, _ => by simp
  | c :: b, a, h => by
    have hc : ¬ c = 47 := fun e => h (e ▸ .head _)
    rw [List.foldl_cons, piece_free b _ fun m => h (.tail _ m)]
    unfold pieceN
    rw [if_neg hc]; simp
theorem piece_split (a b c : List Nat) (h : 47 ∉ b) : (a ++ 47 :: b).foldl pieceN c = b := by
  rw [List.foldl_append, List.foldl_cons, piece_free b _ h]
  unfold pieceN
  rw [if_pos rfl]; rfl
end Mine

namespace Mine
theorem slice_from {x : Str} {i : Nat} (h : i ≤ x.cps.toList.length) : (Txt.slice x (some (i : Int)) none).cps.toList = x.cps.toList.drop i := by
  have e : Txt.slice x (some (i : Int)) none = StrLaws.sliceText x (some (i : Int)) none := rfl
  rw [e, StrLaws.sliceText_from ⟨by lia, by lia⟩, List.toList_toArray, Int.toNat_natCast]
  exact List.take_of_length_le (by rw [List.length_drop]; lia)
theorem base_piece (x : Str) : (Txt.slice x (some (Txt.rfind x (Str.ofString "/") + 1)) none).cps.toList = x.cps.toList.foldl pieceN [] := by
  have key : ∀ i, StrLaws.At x (Str.ofString "/") x.length i ↔ x.cps.toList[i]? = some 47 := fun i => by
    rw [sign_slash]; exact StrLaws.subAt_one x 47 i
  rcases StrLaws.last_spec x (Str.ofString "/") with ⟨h1, h2⟩ | ⟨i, h1, h2, h3⟩
  · have e : Txt.rfind x (Str.ofString "/") + 1 = ((0 : Nat) : Int) := by unfold Txt.rfind; rw [h1]; rfl
    rw [e, slice_from (Nat.zero_le _), List.drop_zero, piece_free _ _ (fun hm => by
      obtain ⟨i, hi⟩ := List.getElem?_of_mem hm
      exact h2 i ((key i).mpr hi))]
    rfl
  · have e : Txt.rfind x (Str.ofString "/") + 1 = ((i + 1 : Nat) : Int) := by unfold Txt.rfind; rw [h1]; rfl
    have hi := (key i).mp h2
    obtain ⟨hl, hv⟩ := List.getElem?_eq_some_iff.mp hi
    have hs : x.cps.toList = x.cps.toList.take i ++ 47 :: x.cps.toList.drop (i + 1) := by
      conv => lhs; rw [← List.take_append_drop i x.cps.toList, List.drop_eq_getElem_cons hl, hv]
    rw [e, slice_from (by lia)]
    conv => rhs; rw [hs]
    rw [piece_split]
    intro hm
    obtain ⟨k, hk⟩ := List.getElem?_of_mem hm
    rw [List.getElem?_drop] at hk
    exact h3 (i + 1 + k) (by lia) ((key _).mpr hk)
/-- basename, told by the walk -/
theorem base_walk {x : Str} {L : List Str} (hL : Ones L) (e : x.cps.toList = catL L) : Txt.slice x (some (Txt.rfind x (Str.ofString "/") + 1)) none = (walkS L).2 := by
  refine Str.ext' (Array.toList_inj.mp ?_)
  rw [base_piece, walk_last, hand_piece L _ hL, e]
  rfl
end Mine

namespace Mine
/-- one part of the path, taken whole -/
def compStep (f : Nat) (c : WK) (p : Str) : WK := wkStep f { c with hand := p } (Str.ofString "/")
/-- the parts that normpath keeps are the ways up and the names of the walk -/
def NpRel (f : Nat) (c : WK) (acc : List Str) : Prop := acc = List.replicate c.up (Str.ofString "..") ++ c.names ∧ (∀ n ∈ c.names, (n == Str.ofString "..") = false) ∧ (f ≠ 0 → c.up = 0)
theorem slash_ne : (Str.ofString "/" != Str.ofString "/") = false := by simp
theorem len0_iff (p : Str) : (p.length : Int) = 0 ↔ p = Str.ofString "" := by
  have e : Str.ofString "" = ⟨#[]⟩ := by decide +kernel
  rw [e]
  constructor
  · intro h
    obtain ⟨a⟩ := p
    have : a = #[] := Array.eq_empty_of_size_eq_zero (by have h' : ((a.size : Nat) : Int) = 0 := h; lia)
    rw [this]
  · intro h; rw [h]; rfl
theorem dd_len : (Str.ofString "..").length = 2 := by decide +kernel
theorem dd_dot : (Str.ofString ".." == Str.ofString ".") = false := by decide +kernel
theorem lastUp_snoc (r : List Str) (q : Str) : lastUp (r ++ [q]) = (q == Str.ofString "..") := by
  unfold lastUp; simp
theorem np_rel {f : Nat} {root : Str} {c : WK} {acc : List Str} {p : Str} (hroot : (root.length : Int) = 0 ↔ f = 0) (h : NpRel f c acc) : NpRel f (compStep f c p) (npStep root acc p) := by
  obtain ⟨rfl, hn, hf⟩ := h
  unfold compStep
  by_cases hp : (p == Str.ofString "..") = true
  · have hpe := eq_of_beq hp
    have hl : ¬ (p.length : Int) = 0 := by rw [hpe, dd_len]; decide
    have hd : (p == Str.ofString ".") = false := by rw [hpe]; exact dd_dot
    have hne : (p != Str.ofString "..") = false := by rw [hpe]; simp
    rcases List.eq_nil_or_concat c.names with e | ⟨r, q, e⟩
    · by_cases hf0 : f = 0
      · rw [wk_up (c := { c with hand := p }) slash_ne hp e hf0]
        refine ⟨?_, by show ∀ n ∈ c.names, _; exact hn, fun h => absurd hf0 h⟩
        show npStep root (List.replicate c.up (Str.ofString "..") ++ c.names) p = List.replicate (c.up + 1) (Str.ofString "..") ++ c.names
        rw [e, List.append_nil, List.append_nil, hpe]
        cases hu : c.up with
        | zero => exact np_app2 (by rw [← hpe]; exact hl) dd_dot (hroot.mpr hf0)
        | succ u =>
          have er : List.replicate (u + 1) (Str.ofString "..") = List.replicate u (Str.ofString "..") ++ [Str.ofString ".."] := List.replicate_succ'
          rw [er, np_app3 (by rw [← hpe]; exact hl) dd_dot (by simp), ← er, ← List.replicate_succ']
      · rw [wk_lost (c := { c with hand := p }) slash_ne hp e hf0]
        refine ⟨?_, hn, hf⟩
        show npStep root (List.replicate c.up (Str.ofString "..") ++ c.names) p = List.replicate c.up (Str.ofString "..") ++ c.names
        rw [e, hf hf0]
        exact np_stay hl hd hne (fun h => hf0 (hroot.mp h))
    · rw [List.concat_eq_append] at e
      rw [wk_pop (c := { c with hand := p }) slash_ne hp (by show c.names ≠ []; rw [e]; simp)]
      have hq : (q == Str.ofString "..") = false := hn q (by rw [e]; exact List.mem_append_right _ (.head _))
      refine ⟨?_, fun n hm => hn n ((List.dropLast_sublist _).subset hm), hf⟩
      show npStep root (List.replicate c.up (Str.ofString "..") ++ c.names) p = List.replicate c.up (Str.ofString "..") ++ c.names.dropLast
      rw [e, ← List.append_assoc, np_pop hl hd hne hq, List.dropLast_concat]
  · have hp' : (p == Str.ofString "..") = false := by simpa using hp
    by_cases hm : p ∈ [Str.ofString "", Str.ofString ".", Str.ofString ".."]
    · rw [wk_skip (c := { c with hand := p }) slash_ne hp' hm]
      refine ⟨?_, hn, hf⟩
      show npStep root (List.replicate c.up (Str.ofString "..") ++ c.names) p = List.replicate c.up (Str.ofString "..") ++ c.names
      rcases List.mem_cons.mp hm with h | hm
      · exact np_empty ((len0_iff p).mpr h)
      rcases List.mem_cons.mp hm with h | hm
      · exact np_dot (by rw [h]; simp)
      · exact absurd (by rw [List.mem_singleton.mp hm]; simp) hp
    · rw [wk_name (c := { c with hand := p }) slash_ne hp' hm]
      have h1 : ¬ (p.length : Int) = 0 := fun e => hm (by rw [(len0_iff p).mp e]; exact .head _)
      have h2 : (p == Str.ofString ".") = false := by
        cases e : p == Str.ofString "." with
        | false => rfl
        | true => exact absurd (by rw [eq_of_beq e]; exact .tail _ (.head _)) hm
      have h3 : (p != Str.ofString "..") = true := by rw [bne, hp']; rfl
      refine ⟨?_, fun n hmn => ?_, hf⟩
      · show npStep root (List.replicate c.up (Str.ofString "..") ++ c.names) p = List.replicate c.up (Str.ofString "..") ++ (c.names ++ [p])
        rw [np_app1 h1 h2 h3, List.append_assoc]
      · rcases List.mem_append.mp (show n ∈ c.names ++ [p] from hmn) with h | h
        · exact hn n h
        · rw [List.mem_singleton.mp h]; exact hp'
theorem np_rels {f : Nat} {root : Str} (hroot : (root.length : Int) = 0 ↔ f = 0) : ∀ (P : List Str) (c : WK) (acc : List Str), NpRel f c acc → NpRel f (P.foldl (compStep f) c) (P.foldl (npStep root) acc)
  | [], _, _, h => h
  | p :: P, c, acc, h => by rw [List.foldl_cons, List.foldl_cons]; exact np_rels hroot P _ _ (np_rel hroot h)
end Mine

namespace Mine
def onesOf (l : List Nat) : List Str := l.map (fun k => (⟨#[k]⟩ : Str))
theorem onesOf_app (a b : List Nat) : onesOf (a ++ b) = onesOf a ++ onesOf b := by unfold onesOf; rw [List.map_append]
theorem ones_eq : ∀ {L : List Str}, Ones L → L = onesOf (catL L)
  | [], _ => rfl
  | s :: L, h => by
    obtain ⟨c, rfl⟩ := h s (.head _)
    rw [catL_one]
    show _ = (⟨#[c]⟩ : Str) :: onesOf (catL L)
    rw [← ones_eq (fun s hs => h s (.tail _ hs))]
theorem hand_run (f : Nat) : ∀ (l : List Nat) (c : WK), 47 ∉ l → (onesOf l).foldl (wkStep f) c = { c with hand := c.hand ++ (⟨l.toArray⟩ : Str) }
  | [], c, _ => by
    have e : c.hand ++ (⟨([] : List Nat).toArray⟩ : Str) = c.hand := str_add_nil rfl
    show c = _
    rw [e]
  | k :: l, c, h => by
    have hk : ¬ k = 47 := fun e => h (e ▸ .head _)
    have hs : ((⟨#[k]⟩ : Str) != Str.ofString "/") = true := by rw [sign_slash]; simp [hk]
    show (onesOf l).foldl (wkStep f) (wkStep f c ⟨#[k]⟩) = _
    rw [hand_run f l _ fun m => h (.tail _ m), wk_sign hs]
    have e : c.hand ++ (⟨#[k]⟩ : Str) ++ (⟨l.toArray⟩ : Str) = c.hand ++ (⟨(k :: l).toArray⟩ : Str) := by
      refine Str.ext' ?_
      simp only [Str.cps_append]
      rw [Array.append_assoc]
      congr 1
      simp
    show { c with hand := c.hand ++ (⟨#[k]⟩ : Str) ++ (⟨l.toArray⟩ : Str) } = _
    rw [e]
theorem comp_hand (f : Nat) (c : WK) (p : Str) : (compStep f c p).hand = Str.ofString "" := by
  unfold compStep
  rw [wk_hand]
  unfold handF
  rw [if_neg (by simp)]
theorem comp_run (f : Nat) (c : WK) (p : Str) (hc : c.hand = Str.ofString "") (hp : 47 ∉ p.cps.toList) : (onesOf (p.cps.toList ++ [47])).foldl (wkStep f) c = compStep f c p := by
  rw [onesOf_app, List.foldl_append, hand_run f _ c hp]
  have e : c.hand ++ (⟨p.cps.toList.toArray⟩ : Str) = p := by
    rw [hc]
    have : (⟨p.cps.toList.toArray⟩ : Str) = p := Str.ext' (by simp)
    rw [this]
    exact str_nil_add (by decide +kernel)
  rw [e]
  show wkStep f _ ⟨#[47]⟩ = _
  rw [← sign_slash]; rfl
theorem parts_run (f : Nat) : ∀ (P : List Str) (c : WK), P ≠ [] → c.hand = Str.ofString "" → (∀ p ∈ P, 47 ∉ p.cps.toList) →
    (onesOf ((Str.join ⟨#[47]⟩ P).cps.toList ++ [47])).foldl (wkStep f) c = P.foldl (compStep f) c
  | [], _, h, _, _ => absurd rfl h
  | [p], c, _, hc, hp => comp_run f c p hc (hp p (.head _))
  | p :: q :: r, c, _, hc, hp => by
    have ih := parts_run f (q :: r) (compStep f c p) (by simp) (comp_hand f c p) fun x hx => hp x (.tail _ hx)
    have e : (Str.join ⟨#[47]⟩ (p :: q :: r)).cps.toList ++ [47] = (p.cps.toList ++ [47]) ++ ((Str.join ⟨#[47]⟩ (q :: r)).cps.toList ++ [47]) := by
      show (p ++ ⟨#[47]⟩ ++ Str.join ⟨#[47]⟩ (q :: r)).cps.toList ++ [47] = _
      rw [Str.cps_append, Str.cps_append, Array.toList_append, Array.toList_append]
      simp
    rw [e, onesOf_app, List.foldl_append, comp_run f c p hc (hp p (.head _)), ih]
    rfl
theorem split_ne (y : Str) : Txt.split y ⟨#[47]⟩ ≠ [] := by
  intro e
  unfold Txt.split at e
  split at e
  · cases e
  · split at e
    · cases e
    · rw [StrLaws.partsBetween_eq] at e
      obtain ⟨p, r, h⟩ := StrLaws.partsFrom_ne y (⟨#[47]⟩ : Str).length 0 (Builtin.Str.occurrences y ⟨#[47]⟩ 0 y.length (y.length + 1))
      rw [h] at e; cases e
/-- the walk over a text's signs is the walk over its parts -/
theorem split_run (f : Nat) (y : Str) (c : WK) (hc : c.hand = Str.ofString "") : (onesOf (y.cps.toList ++ [47])).foldl (wkStep f) c = (Txt.split y (Str.ofString "/")).foldl (compStep f) c := by
  rw [sign_slash, ← parts_run f _ c (split_ne y) hc (StrLaws.split_free y 47), StrLaws.join_split]
end Mine

namespace Mine
theorem clip_idx (a b n : Nat) : Builtin.Str.strSliceIndices (some (a : Int)) (some (b : Int)) 1 n = Builtin.Str.strSliceIndices (some ((min a n : Nat) : Int)) (some ((min b n : Nat) : Int)) 1 n := by
  unfold Builtin.Str.strSliceIndices
  have e1 : ∀ k : Nat, (max 0 (min (if (k : Int) < 0 then (k : Int) + n else (k : Int)) (n : Int))) = ((min k n : Nat) : Int) := fun k => by
    rw [if_neg (by lia)]; lia
  simp only [show (1 : Int) > 0 from by decide, if_true, e1]
  congr 1 <;> lia
theorem slice_nat (x : Str) {a b : Nat} (hab : a ≤ b) : (Txt.slice x (some (a : Int)) (some (b : Int))).cps.toList = (x.cps.toList.drop a).take (b - a) := by
  have e : Txt.slice x (some (a : Int)) (some (b : Int)) = Txt.slice x (some ((min a x.length : Nat) : Int)) (some ((min b x.length : Nat) : Int)) := by
    unfold Txt.slice; rw [clip_idx]
  have e2 : Txt.slice x (some ((min a x.length : Nat) : Int)) (some ((min b x.length : Nat) : Int)) = StrLaws.sliceText x (some ((min a x.length : Nat) : Int)) (some ((min b x.length : Nat) : Int)) := rfl
  have hl := str_len x
  have q : (0 : Int) ≤ ((min a x.length : Nat) : Int) ∧ ((min a x.length : Nat) : Int) ≤ ((min b x.length : Nat) : Int) ∧ ((min b x.length : Nat) : Int) ≤ (x.length : Int) := ⟨Int.natCast_nonneg _, Int.ofNat_le.mpr (Nat.le_min.mpr ⟨Nat.le_trans (Nat.min_le_left _ _) hab, Nat.min_le_right _ _⟩), Int.ofNat_le.mpr (Nat.min_le_right _ _)⟩
  rw [e, e2, StrLaws.sliceText_plain q, List.toList_toArray]
  have h1 : (((min a x.length : Nat) : Int)).toNat = min a x.length := Int.toNat_natCast _
  rw [h1]
  by_cases h : a ≤ x.length
  · rw [Nat.min_eq_left h]
    by_cases h2 : b ≤ x.length
    · rw [Nat.min_eq_left h2, show ((b : Int) - (a : Int)).toNat = b - a from Int.toNat_sub b a]
    · rw [Nat.min_eq_right (Nat.le_of_not_le h2)]
      rw [List.take_of_length_le (by rw [List.length_drop]; lia), List.take_of_length_le (by rw [List.length_drop]; lia)]
  · rw [Nat.min_eq_right (Nat.le_of_not_le h), List.drop_eq_nil_of_le (by lia), List.drop_eq_nil_of_le (by lia)]; simp
theorem slice_upto (x : Str) (b : Nat) : (Txt.slice x none (some (b : Int))).cps.toList = x.cps.toList.take b := by
  have e : Txt.slice x none (some (b : Int)) = Txt.slice x (some ((0 : Nat) : Int)) (some (b : Int)) := by
    unfold Txt.slice; rw [StrLaws.sliceIdx_none_lo]; rfl
  rw [e, slice_nat x (Nat.zero_le _)]; simp
end Mine

namespace Mine
theorem eq_slash_iff (s : Str) : (s == Str.ofString "/") = true ↔ s.cps.toList = [47] := by
  rw [sign_slash, beq_iff_eq]
  constructor
  · intro h; rw [h]
  · intro h; exact Str.ext' (Array.toList_inj.mp h)
theorem take1_iff (l : List Nat) (i : Nat) : (l.drop i).take 1 = [47] ↔ l[i]? = some 47 := by
  rw [← StrLaws.take1_drop (l := l) (c := 47) (i := i), beq_iff_eq]
theorem sl_iff (x : Str) (i : Nat) : (Txt.slice x (some (i : Int)) (some ((i + 1 : Nat) : Int)) == Str.ofString "/") = true ↔ x.cps.toList[i]? = some 47 := by
  rw [eq_slash_iff, slice_nat x (Nat.le_succ i), show i + 1 - i = 1 from by lia, take1_iff]
theorem sl0_iff (x : Str) : (Txt.slice x none (some 1) == Str.ofString "/") = true ↔ x.cps.toList[0]? = some 47 := by
  have h := slice_upto x 1
  rw [eq_slash_iff, show (1 : Int) = ((1 : Nat) : Int) from rfl, h, ← take1_iff, List.drop_zero]
/-- how many slashes stand ahead -/
def frontL (l : List Nat) : Nat := (l.takeWhile (· == 47)).length
theorem front_ones : ∀ l : List Nat, frontN (onesOf l) = frontL l
  | [] => rfl
  | c :: l => by
    have ih := front_ones l
    unfold frontN frontL at ih ⊢
    show (List.takeWhile (· == Str.ofString "/") ((⟨#[c]⟩ : Str) :: onesOf l)).length = _
    rw [List.takeWhile_cons, List.takeWhile_cons, sign_slash]
    by_cases h : c = 47
    · subst h; rw [sign_slash] at ih; simp [ih]
    · have h1 : ((⟨#[c]⟩ : Str) == ⟨#[47]⟩) = false := by simp [h]
      have h2 : (c == 47) = false := by simp [h]
      rw [h1, h2]; rfl
theorem front_get : ∀ (l : List Nat) (j : Nat), j < frontL l → l[j]? = some 47
  | [], j, h => absurd h (Nat.not_lt_zero _)
  | c :: l, j, h => by
    unfold frontL at h
    rw [List.takeWhile_cons] at h
    by_cases hc : c = 47
    · rw [if_pos (by simp [hc]), List.length_cons] at h
      cases j with
      | zero => rw [hc]; rfl
      | succ j => exact front_get l j (by unfold frontL; lia)
    · rw [if_neg (by simp [hc])] at h; exact absurd h (Nat.not_lt_zero _)
theorem front_stop : ∀ (l : List Nat), l[frontL l]? ≠ some 47
  | [] => by intro h; cases h
  | c :: l => by
    unfold frontL
    rw [List.takeWhile_cons]
    by_cases hc : c = 47
    · rw [if_pos (by simp [hc]), List.length_cons]; exact front_stop l
    · rw [if_neg (by simp [hc])]; intro h; exact hc (Option.some.inj h)
/-- the root and the rest of a path -/
theorem split_root (x : Str) : ∃ k, k ≤ frontL x.cps.toList ∧ (splitS x).2.cps.toList = x.cps.toList.drop k ∧ (splitS x).1 = (if frontL x.cps.toList < 3 then Txt.mul (Str.ofString "/") (frontL x.cps.toList) else Str.ofString "/") := by
  generalize hf : frontL x.cps.toList = f
  have g1 : ∀ j, j < f → x.cps.toList[j]? = some 47 := fun j hj => front_get _ j (hf ▸ hj)
  have g2 : x.cps.toList[f]? ≠ some 47 := hf ▸ front_stop _
  have m0 : Txt.mul (Str.ofString "/") ((0 : Nat) : Int) = Str.ofString "" := by decide +kernel
  have m1 : Txt.mul (Str.ofString "/") ((1 : Nat) : Int) = Str.ofString "/" := by decide +kernel
  have m2 : (Txt.mul (Str.ofString "/") ((2 : Nat) : Int)).cps.toList = [47, 47] := by decide +kernel
  have d1 : (Txt.slice x (some 1) none).cps.toList = x.cps.toList.drop 1 ∨ x.cps.toList = [] := by
    by_cases h : x.cps.toList = []
    · exact .inr h
    · exact .inl (slice_from (i := 1) (Nat.pos_of_ne_zero fun e => h (List.eq_nil_of_length_eq_zero e)))
  unfold splitS
  by_cases c0 : x.cps.toList[0]? = some 47
  · have h0 := (sl0_iff x).mpr c0
    rw [if_neg (by rw [bne, h0]; decide)]
    have hf1 : f ≠ 0 := fun e => g2 (e ▸ c0)
    have d1' : (Txt.slice x (some 1) none).cps.toList = x.cps.toList.drop 1 := d1.resolve_right fun e => by rw [e] at c0; cases c0
    by_cases c1 : x.cps.toList[1]? = some 47
    · have h1 := (sl_iff x 1).mpr c1
      rw [if_neg (show ¬ (Txt.slice x (some 1) (some 2) != Str.ofString "/") = true from by rw [bne]; intro e; rw [show Txt.slice x (some 1) (some 2) = Txt.slice x (some ((1 : Nat) : Int)) (some ((1 + 1 : Nat) : Int)) from rfl, h1] at e; cases e)]
      have hf2 : f ≠ 1 := fun e => g2 (e ▸ c1)
      by_cases c2 : x.cps.toList[2]? = some 47
      · have h2 := (sl_iff x 2).mpr c2
        rw [if_pos (show (Txt.slice x (some 2) (some 3) == Str.ofString "/") = true from h2)]
        have hf3 : f ≠ 2 := fun e => g2 (e ▸ c2)
        exact ⟨1, by lia, d1', by rw [if_neg (by lia)]⟩
      · have h2 : ¬ (Txt.slice x (some 2) (some 3) == Str.ofString "/") = true := fun e => c2 ((sl_iff x 2).mp e)
        rw [if_neg h2]
        have hf3 : f = 2 := by
          rcases Nat.lt_or_ge 2 f with h | h
          · exact absurd (g1 2 h) c2
          · lia
        subst hf3
        have hl : 2 ≤ x.cps.toList.length := by have := List.getElem?_eq_some_iff.mp c1; exact this.1
        refine ⟨2, Nat.le_refl _, slice_from (i := 2) hl, ?_⟩
        rw [if_pos (by decide)]
        refine Str.ext' (Array.toList_inj.mp ?_)
        rw [m2]
        show (Txt.slice x none (some ((2 : Nat) : Int))).cps.toList = _
        rw [slice_upto]
        refine List.ext_getElem? fun j => ?_
        match j with
        | 0 => rw [List.getElem?_take]; simpa using c0
        | 1 => rw [List.getElem?_take]; simpa using c1
        | j + 2 => rw [List.getElem?_take, if_neg (by lia)]; rfl
    · have h1 : ¬ (Txt.slice x (some ((1 : Nat) : Int)) (some ((1 + 1 : Nat) : Int)) == Str.ofString "/") = true := fun e => c1 ((sl_iff x 1).mp e)
      rw [if_pos (show (Txt.slice x (some 1) (some 2) != Str.ofString "/") = true from by rw [bne]; simpa using h1)]
      have hf3 : f = 1 := by
        rcases Nat.lt_or_ge 1 f with h | h
        · exact absurd (g1 1 h) c1
        · lia
      subst hf3
      exact ⟨1, Nat.le_refl _, d1', by rw [if_pos (by decide), m1]⟩
  · have h0 : ¬ (Txt.slice x none (some 1) == Str.ofString "/") = true := fun e => c0 ((sl0_iff x).mp e)
    rw [if_pos (show (Txt.slice x none (some 1) != Str.ofString "/") = true from by rw [bne]; simpa using h0)]
    have hf0 : f = 0 := by
      rcases Nat.eq_zero_or_pos f with h | h
      · exact h
      · exact absurd (g1 0 h) c0
    subst hf0
    exact ⟨0, Nat.le_refl _, by rw [List.drop_zero], by rw [if_pos (by decide), m0]⟩
end Mine

namespace Mine
theorem wk0_slash (f : Nat) : wkStep f wk0 (Str.ofString "/") = wk0 := by
  rw [wk_skip (c := wk0) slash_ne (by decide +kernel) (List.Mem.head _)]; rfl
theorem drop_slashes (f : Nat) : ∀ (n : Nat) (M : List Str), (∀ j, j < n → M[j]? = some (Str.ofString "/")) → (M ++ [Str.ofString "/"]).foldl (wkStep f) wk0 = (M.drop n ++ [Str.ofString "/"]).foldl (wkStep f) wk0
  | 0, M, _ => by rw [List.drop_zero]
  | n + 1, [], h => by have := h 0 (Nat.succ_pos _); cases this
  | n + 1, s :: M, h => by
    have hs : s = Str.ofString "/" := Option.some.inj (h 0 (Nat.succ_pos _))
    have ih := drop_slashes f n M fun j hj => h (j + 1) (Nat.succ_lt_succ hj)
    rw [List.cons_append, List.foldl_cons, hs, wk0_slash, ih, List.drop_succ_cons]
theorem root_len (f : Nat) : (((if f < 3 then Txt.mul (Str.ofString "/") (f : Int) else Str.ofString "/" : Str)).length : Int) = 0 ↔ f = 0 := by
  by_cases h : f < 3
  · rw [if_pos h]
    have m0 : (Txt.mul (Str.ofString "/") ((0 : Nat) : Int)).length = 0 := by decide +kernel
    have m1 : (Txt.mul (Str.ofString "/") ((1 : Nat) : Int)).length = 1 := by decide +kernel
    have m2 : (Txt.mul (Str.ofString "/") ((2 : Nat) : Int)).length = 2 := by decide +kernel
    have : f = 0 ∨ f = 1 ∨ f = 2 := by lia
    rcases this with rfl | rfl | rfl
    · rw [m0]; simp
    · rw [m1]; simp
    · rw [m2]; simp
  · rw [if_neg h]
    have m1 : (Str.ofString "/").length = 1 := by decide +kernel
    rw [m1]; lia
theorem norm_place {x : Str} {L : List Str} (hL : Ones L) (e : x.cps.toList = catL L) : normP x = walkPlace L := by
  have hLl : L = onesOf x.cps.toList := by rw [e]; exact ones_eq hL
  obtain ⟨k, hk, e2, e1⟩ := split_root x
  have hf : frontN L = frontL x.cps.toList := by rw [hLl]; exact front_ones _
  generalize hfe : frontL x.cps.toList = f at hk e1 hf
  have hC : walkC L = (Txt.split (splitS x).2 (Str.ofString "/")).foldl (compStep f) wk0 := by
    unfold walkC
    rw [hf, ← split_run f (splitS x).2 wk0 rfl, e2, onesOf_app]
    have h1 : onesOf (x.cps.toList.drop k) = L.drop k := by rw [hLl]; unfold onesOf; rw [List.map_drop]
    have h2 : onesOf [47] = [Str.ofString "/"] := by rw [sign_slash]; rfl
    rw [h1, h2, drop_slashes f (f - k) (L.drop k) (fun j hj => ?_), List.drop_drop, show k + (f - k) = f from by lia]
    rw [List.getElem?_drop, hLl]
    unfold onesOf
    rw [List.getElem?_map, front_get x.cps.toList (k + j) (by lia), sign_slash]; rfl
  have r0 : NpRel f wk0 [] := And.intro rfl (And.intro (fun n h => absurd h List.not_mem_nil) (fun _ => rfl))
  have hR := np_rels (f := f) (root := (splitS x).1) (by rw [e1]; exact root_len f) (Txt.split (splitS x).2 (Str.ofString "/")) wk0 [] r0
  unfold normP walkPlace
  rw [hR.1, hC, hf, e1]
/-- normpath, told by the walk -/
theorem norm_walk {x : Str} {L : List Str} (hL : Ones L) (e : x.cps.toList = catL L) : normS x = (walkS L).1 := by
  have hp := norm_place hL e
  have hw : (walkS L).1 = if (normP x != Str.ofString "") = true then normP x else Str.ofString "." := by unfold walkS; rw [hp]
  rw [hw]
  unfold normS
  have hne : ((normP x != Str.ofString "") = true) ↔ ¬ ((normP x).length : Int) = 0 := by
    rw [len0_iff, bne_iff_ne]
  by_cases h0 : (x.length : Int) = 0
  · rw [if_pos h0]
    have hx : x = Str.ofString "" := (len0_iff x).mp h0
    have hz : ((normP x).length : Int) = 0 := by
      rw [hx]
      have : (normP (Str.ofString "")).length = 0 := by decide +kernel
      rw [this]; rfl
    rw [if_neg (fun h => hne.mp h hz)]
  · rw [if_neg h0]
    by_cases hz : ((normP x).length : Int) = 0
    · rw [if_pos hz, if_neg (fun h => hne.mp h hz)]
    · rw [if_neg hz, if_pos (hne.mpr hz)]
end Mine

namespace Mine
open LCg
section
variable {prog : Program} {w : World} {A : Around} {E : Value → Shared → Prop} {s : Shared} {h₀ : Heap} {L : Addr} {m : Str → Option Value} {env : Env}
/-- the dict that the comprehension walks stands on the ledger -/
def DictIn (d : Addr) (od : Obj) (news : List (Addr × Obj)) : Prop := (d, od) ∈ news
/-- what the comprehension over a dict asks once its dict is known -/
def SrcD (prog : Program) (w : World) (A : Around) (h₀ : Heap) (L : Addr) (m : Str → Option Value) (env : Env) (elt : PySem.Expr) (x : Str) (scope : Scope) (cl : List (Str × Addr)) (Fin : Shared → List Value → List (Addr × Obj) → Prop) (xv : Value) (s₁ : Shared) : Prop :=
  ∃ d od kvs ep news, xv = .ref d ∧ A.handled = none ∧ Fr h₀ L s₁.heap m ∧ News h₀ L s₁.heap news ∧ (d == sysModules) = false ∧ (d, od) ∈ news ∧ KdkAt (PySem.strKind prog w) od kvs ep ∧ kvs.length ≤ sizeLine ∧
    ∀ s₂ : Shared, (∃ h, s₂ = { s₁ with heap := h }) → CompRest prog w A h₀ L m env elt x scope cl s₂ (DictIn d od) (fun i v => ∃ k y, kvs[i]? = some (k, y) ∧ (PySem.strKind prog w).is k v = true) (Fin s₂) kvs.length 0 [] news
theorem dict_at {d : Addr} {od : Obj} {kvs : List (Str × Value)} {ep : Nat} {h : Heap} (r : KdkAt (PySem.strKind prog w) od kvs ep) (e : h.get? d = some od) : h.DictAt (PySem.strKind prog w) d kvs ep := by
  obtain ⟨es, h1, h2, h3, h4, h5⟩ := r
  exact ⟨od, es, e, h1, h2, h3, h4, h5⟩
theorem assign_dictcomp {elt iter : PySem.Expr} {x y : Str} {px py : Pos} {scope : Scope} {cl : List (Str × Addr)} {pos spos : Pos} {Q : Flow → Shared → Prop} (F₀ : Fr h₀ L s.heap m) (hLe : env.locals = L)
    (hsw : swapsWith (.ListComp elt [⟨.Name x px, iter, [], 0⟩] scope pos) (some (.Name y py)) spos.line env = pure true)
    (hclos : closureFor scope env = pure cl) (hcell : ∀ z ∈ scope.names, z.2 ≠ .cell) (hkind : scope.kind = .function)
    (hnames : ∀ z ∈ scope.names, z.2 = .local → scope.names.lookup z.1 = some .local) (hx : scope.names.lookup x = some .local)
    (hy : env.kindOf y = some .local) (hp : (env.scope.kind == .class || (env.scope.kind == .module && env.locals != env.globals)) = false)
    (h : wpAny (model prog w) A (eval iter env) (SrcD prog w A h₀ L m env elt x scope cl (fun s₂ => FinA h₀ L m s₂ y Q)) E s)
    (hs : ∀ x, foldedSetIterable iter env x = pure x := by intro _; rfl) :
    wpAny (model prog w) A (exec (.Assign [.Name y py] (.ListComp elt [⟨.Name x px, iter, [], 0⟩] scope pos) spos) env) Q E s := by
  have _ := F₀
  subst hLe
  rw [exec_Assign_Name_used _ _ _ _ hsw]
  refine wpAny_bind (wpAny_standAt (wpAny_bind ?_))
  refine wpAny_bind (wpAny_mono (wpAny_comprehension_free (use := some (assign (.Name y py) env)) (Q := fun _ s' => Q .next s') rfl hs hclos hkind hnames
    (wpAny_mono h (fun xv s₁ h₁ => ?_) fun _ _ e => e)) (fun _ s' hq => wpAny_pure (wpAny_pure hq)) fun _ _ e => e)
  obtain ⟨d, od, kvs, ep, news, rfl, hh, F, N, lo, hm, r, hsz, R⟩ := h₁
  have hod := N.get hm
  have hlt : d < s₁.heap.objs.size := Heap.lt_size hod
  refine wpAny_pyIter_dict lo (dict_at r hod) ?_
  have up : ∀ o b ob, s₁.heap.get? b = some ob → (s₁.heap.push o).get? b = some ob := fun o b ob e => Heap.get?_push_of_some _ e
  refine block_U (Walks.dictKeys hh s₁.heap.objs.size d (Nat.ne_of_lt hlt) kvs ep) hsz (fun i h st => by obtain ⟨o, e, _⟩ := st.1; exact ⟨o, e⟩)
    (fun i h h' o nw st e e' k N' S => ⟨by obtain ⟨o', q, r'⟩ := st.1; rw [e] at q; cases q; exact ⟨o, e', r'⟩, dict_at r (N'.get S)⟩) hcell hkind hx ⟨⟨_, Heap.get?_push_size _ rfl, rfl, rfl⟩, dict_at r (up _ _ _ hod)⟩ (fun b hb => ?_)
    (F.keeps (up _)) (N.grown (up _)) (Nat.ne_of_lt F.ns.lt) (next_is_new F) (fun p hp => Nat.ne_of_lt (Heap.lt_size (N p hp).1)) hm (R _ ⟨_, rfl⟩) ?_
  · show b < (s₁.heap.push _).objs.size
    rw [Heap.size_push]
    rcases List.mem_cons.mp hb with rfl | hb
    · exact Nat.lt_succ_self _
    · rw [List.mem_singleton.mp hb]; exact Nat.lt_succ_of_lt hlt
  · intro D C h' tk m' ys news' F' N' o1 hn hC₀ hD₀ hCL hDL hCD offC fin
    show wpAny _ A (assign (.Name y py) env (.ref D)) _ _ _
    refine wpAny_assign_Name (wpAny_storeName_local hy F'.ns (fun h₂ hn₂ hs₂ => ?_) hp)
    refine ⟨m', hn.sameBut hs₂ hCL, fun h'' hs'' => fin D h'' _ ((F'.set hn₂ hs₂).change hs'' hCL hC₀) (fun p hp => ?_) o1⟩
    refine ⟨hs''.extBut _ _ ?_ ((N'.set hs₂) p hp).1, (N' p hp).2⟩
    rcases List.mem_cons.mp hp with rfl | hp
    · exact Ne.symm hCD
    · exact offC p hp
end
end Mine

namespace Mine
open LCg
/-- a tuple of two texts -/
abbrev tupO (x : Str) (t : Tok) (y : Str) (u : Tok) : Obj := { cls := .type "tuple", data := .seq #[.str x t, .str y u] }
/-- the tuples made so far: texts of T, tokens of their own -/
def EntsIn (acc : List (Addr × Obj)) (ys : List Value) (T : List TE) : Prop := ys.length = T.length ∧ ∀ (j : Nat) (q : TE), T[j]? = some q → ∃ b : Addr, ys[j]? = some (.ref b) ∧ (b, tupO q.x q.t q.y q.u) ∈ acc
theorem EntsIn.nil : EntsIn [] [] [] := ⟨rfl, fun j q h => by simp at h⟩
theorem EntsIn.snoc {acc : List (Addr × Obj)} {ys : List Value} {T : List TE} (e : EntsIn acc ys T) (b : Addr) (q : TE) : EntsIn ((b, tupO q.x q.t q.y q.u) :: acc) (ys ++ [.ref b]) (T ++ [q]) := by
  refine ⟨by simp [e.1], fun j p hp => ?_⟩
  by_cases hj : j < T.length
  · rw [List.getElem?_append_left hj] at hp
    obtain ⟨b', h1, h2⟩ := e.2 j p hp
    exact ⟨b', by rw [List.getElem?_append_left (by rw [e.1]; exact hj)]; exact h1, .tail _ h2⟩
  · rw [List.getElem?_append_right (by lia)] at hp
    have h0 : j - T.length = 0 := by
      cases z : j - T.length with
      | zero => rfl
      | succ n => rw [z] at hp; simp at hp
    rw [h0] at hp
    have : p = q := by simpa using hp.symm
    subst this
    exact ⟨b, by rw [List.getElem?_append_right (by rw [e.1]; lia), e.1, h0]; rfl, .head _⟩
theorem EntsIn.at {acc news : List (Addr × Obj)} {ys : List Value} {T : List TE} {h₀ h : Heap} {L : Addr} (e : EntsIn acc ys T) (N : News h₀ L h news) (sub : ∀ p ∈ acc, p ∈ news) : EntsAt h ys T :=
  ⟨e.1, fun j q hq => (e.2 j q hq).elim fun b h => ⟨b, h.1, ⟨_, (N _ (sub _ h.2)).1, rfl, 0, rfl⟩⟩⟩
def kvsOf (T : List TE) : List (Str × Value) := T.map fun q => (q.x, Value.str q.y q.u)
section
variable {prog : Program} {w : World} {A : Around} {s : Shared} {h₀ : Heap} {L : Addr} {m : Str → Option Value} {env : Env}
/-- what one turn makes: a tuple of the key and its text -/
def TurnD (h₀ : Heap) (L : Addr) (m : Str → Option Value) (s : Shared) (I : Addr) (oI : Obj) (C : Addr) (oC : Obj) (D : Addr) (oD : Obj) (nx : List (Addr × Obj)) (q : TE) (y : Value) (s₂ : Shared) : Prop :=
  ∃ b t u h' tk, y = .ref b ∧ s₂ = { s with heap := h', toks := tk } ∧ Fr h₀ L h' m ∧ News h₀ L h' ((I, oI) :: (C, oC) :: (D, oD) :: (b, tupO q.x t q.y u) :: nx) ∧ @Ne Nat b I ∧ @Ne Nat b C ∧ @Ne Nat b D
theorem rest_dict {elt : PySem.Expr} {x : Str} {scope : Scope} {cl : List (Str × Addr)} {Fin : List Value → List (Addr × Obj) → Prop} {T : List TE} {news0 : List (Addr × Obj)} {d : Addr} {od : Obj} (hd : (d, od) ∈ news0)
    (turn : ∀ (q : TE) (t : Tok) (I C D : Addr) (oI oC : Obj) (ys : List Value) (acc : List (Addr × Obj)) (m₂ : Str → Option Value) (h : Heap) (tk : Nat) (E' : Value → Shared → Prop), q ∈ T → NsObj oC m₂ → m₂ x = some (.str q.x t) → Fr h₀ L h m →
      News h₀ L h ((I, oI) :: (C, oC) :: (D, lst ys) :: (news0 ++ acc)) → ((@Ne Nat I C) ∧ (@Ne Nat I D) ∧ (@Ne Nat C D)) →
      wpAny (model prog w) A (eval elt (compEnvC scope cl C env)) (TurnD h₀ L m s I oI C oC D (lst ys) (news0 ++ acc) q) E' { s with heap := h, toks := tk })
    (fin : ∀ (ys : List Value) (acc : List (Addr × Obj)) (T' : List TE), EntsIn acc ys T' → T'.map TE.pair = T.map TE.pair → Fin ys (news0 ++ acc)) :
    CompRest prog w A h₀ L m env elt x scope cl s (DictIn d od) (fun i v => ∃ k y, (kvsOf T)[i]? = some (k, y) ∧ (PySem.strKind prog w).is k v = true) Fin (kvsOf T).length 0 [] news0 := by
  have key : ∀ (k i : Nat) (ys : List Value) (acc : List (Addr × Obj)) (T' : List TE), i + k = T.length → EntsIn acc ys T' → T'.map TE.pair = (T.take i).map TE.pair →
      CompRest prog w A h₀ L m env elt x scope cl s (DictIn d od) (fun i v => ∃ k y, (kvsOf T)[i]? = some (k, y) ∧ (PySem.strKind prog w).is k v = true) Fin k i ys (news0 ++ acc) := by
    intro k
    induction k with
    | zero =>
      intro i ys acc T' hi e hT
      rw [List.take_of_length_le (by lia)] at hT
      exact CompRest.zero (fin ys acc T' e hT)
    | succ k ih =>
      intro i ys acc T' hi e hT
      refine CompRest.succ ?_
      intro v I oI C oC D m₂ h tk E' hv hC hx F N off ne
      obtain ⟨a, y, hy, ha⟩ := hv
      have hil : i < T.length := by lia
      have hq : T[i]? = some T[i] := List.getElem?_eq_getElem hil
      unfold kvsOf at hy
      rw [List.getElem?_map, hq] at hy
      injection hy with hy
      injection hy with hy1 hy2
      subst hy1
      obtain ⟨t, rfl⟩ := Value.isStrOf_shape ha
      refine wpAny_mono (turn T[i] t I C D oI oC ys acc m₂ h tk E' (List.getElem_mem hil) hC hx F N ne) (fun y s₂ hs => ?_) fun _ _ e => e
      obtain ⟨b, t', u', h', tk', rfl, rfl, F', N', o1, o2, o3⟩ := hs
      refine CompEnd.intro F' N' (news0 ++ ((b, tupO (T[i]).x t' (T[i]).y u') :: acc)) ?_ ?_ (List.mem_append.mpr (.inl hd)) ?_
      · intro p hp
        rcases List.mem_cons.mp hp with rfl | hp
        · exact .head _
        rcases List.mem_cons.mp hp with rfl | hp
        · exact .tail _ (.head _)
        rcases List.mem_cons.mp hp with rfl | hp
        · exact .tail _ (.tail _ (.head _))
        rcases List.mem_append.mp hp with hp | hp
        · exact .tail _ (.tail _ (.tail _ (.tail _ (List.mem_append.mpr (.inl hp)))))
        rcases List.mem_cons.mp hp with rfl | hp
        · exact .tail _ (.tail _ (.tail _ (.head _)))
        · exact .tail _ (.tail _ (.tail _ (.tail _ (List.mem_append.mpr (.inr hp)))))
      · refine Off3.of fun p hp => ?_
        rcases List.mem_append.mp hp with hp | hp
        · exact off.mem p (List.mem_append.mpr (.inl hp))
        rcases List.mem_cons.mp hp with rfl | hp
        · exact ⟨o1, o2, o3⟩
        · exact off.mem p (List.mem_append.mpr (.inr hp))
      · refine ih (i + 1) _ _ (T' ++ [⟨(T[i]).x, t', (T[i]).y, u'⟩]) (by lia) (e.snoc b ⟨(T[i]).x, t', (T[i]).y, u'⟩) ?_
        rw [List.map_append, hT, List.take_add_one, List.map_append, hq]
        rfl
  have e : (kvsOf T).length = T.length := by unfold kvsOf; rw [List.length_map]
  rw [e]
  have := key T.length 0 [] [] [] (by lia) EntsIn.nil (by rw [List.take_zero])
  rw [List.append_nil] at this
  exact this
end
theorem look_raw : ∀ {T : List TE} {q : TE}, (T.map (·.x)).Nodup → q ∈ T → PySem.Spec.lookup (.str q.x) (T.map fun q => (PyData.str q.x, PyData.str q.y)) = some (.str q.y)
  | [], _, _, h => nomatch h
  | p :: T, q, hn, h => by
    rw [List.map_cons, List.nodup_cons] at hn
    rw [List.map_cons, PySem.Spec.lookup, show PySem.Spec.same (.str p.x) (.str q.x) = (p.x == q.x) from rfl]
    rcases List.mem_cons.mp h with rfl | h
    · rw [if_pos (by simp)]
    · have : p.x ≠ q.x := fun e => hn.1 (List.mem_map.mpr ⟨q, h, e.symm⟩)
      rw [if_neg (by simpa using this)]
      exact look_raw hn.2 h
theorem item_raw {prog : Program} {w : World} {A : Around} {E : Value → Shared → Prop} {s : Shared} {value slice : PySem.Expr} {d : Addr} {od : Obj} {T : List TE} {q : TE} {t : Tok} {Q : Value → Shared → Prop} (hd : s.heap.get? d = some od) (r : TabRaw prog w od T) (lo : (d == sysModules) = false) (hq : q ∈ T)
    (h : ∀ u, Q (.str q.y u) { s with toks := s.toks + 1 })
    (hs : subscripted slice false (.ref d) (.str q.x t) = operate [.ref d, .str q.x t] (getItem (.ref d) (.str q.x t)) := by with_unfolding_all rfl) (hg : ∀ r, letTemporaryGo value (.ref d) r = pure () := by intro _; with_unfolding_all rfl) :
    wpAny (model prog w) A (subscriptTail value slice (.ref d) (.str q.x t)) Q E s := by
  have hn : (T.map (·.x)).Nodup := by obtain ⟨_, _, _, _, _, _, n⟩ := r; exact n
  refine item_strTab (r.tab hd lo) (look_raw hn hq) (fun v hv => ?_) hs hg
  obtain ⟨u, rfl⟩ := hv.str_inv
  exact h _
theorem turn_news {h₀ h' : Heap} {L I C D b : Addr} {oI oC oD ob : Obj} {nx : List (Addr × Obj)} (N : News h₀ L h' ((b, ob) :: (I, oI) :: (C, oC) :: (D, oD) :: nx)) : News h₀ L h' ((I, oI) :: (C, oC) :: (D, oD) :: (b, ob) :: nx) := fun p hp => N p (by
  rcases List.mem_cons.mp hp with rfl | hp
  · exact .tail _ (.head _)
  rcases List.mem_cons.mp hp with rfl | hp
  · exact .tail _ (.tail _ (.head _))
  rcases List.mem_cons.mp hp with rfl | hp
  · exact .tail _ (.tail _ (.tail _ (.head _)))
  rcases List.mem_cons.mp hp with rfl | hp
  · exact .head _
  · exact .tail _ (.tail _ (.tail _ (.tail _ hp))))
end Mine

namespace Mine
theorem empty_cps : (Str.ofString "").cps.toList = [] := by decide +kernel
theorem join_cat : ∀ L : List Str, (Txt.join (Str.ofString "") L).cps.toList = catL L := by
  intro L
  show (Builtin.Str.glued (Str.ofString "") L).cps.toList = _
  rw [StrLaws.glued_eq_join]
  have key : ∀ L : List Str, (Str.join (Str.ofString "") L).cps.toList = catL L := by
    intro L
    induction L with
    | nil => rfl
    | cons p r ih =>
      cases r with
      | nil => simp [Str.join, catL]
      | cons q r =>
        show (p ++ Str.ofString "" ++ Str.join (Str.ofString "") (q :: r)).cps.toList = _
        rw [Str.cps_append, Str.cps_append, Array.toList_append, Array.toList_append, ih, empty_cps]
        simp [catL]
  exact key L
theorem text_of_cps {x : Str} {L : List Str} (e : x.cps.toList = catL L) : x = Txt.join (Str.ofString "") L := Str.ext' (Array.toList_inj.mp (e.trans (join_cat L).symm))
theorem starts_slice (y : Str) : (Txt.slice y none (some 1) == Str.ofString "/") = true ↔ Txt.startswith y (Str.ofString "/") = true := (sl0_iff y).trans (starts_iff y).symm
section
variable {one two : Str} {D : List (Str × Str)}
theorem other1 (h : (Txt.slice two none (some 1) == Str.ofString "/") = true) : [] = otherL one two D := by
  unfold otherL; rw [if_pos (.inl ((starts_slice two).mp h))]
theorem other2 (h : (one == Str.ofString "") = true) : [] = otherL one two D := by
  unfold otherL; rw [if_pos (.inr (by rw [eq_of_beq h]; decide +kernel))]
theorem other_not (h1 : (Txt.slice two none (some 1) == Str.ofString "/") = false) (h2 : (one == Str.ofString "") = false) : ¬ (Txt.startswith two (Str.ofString "/") = true ∨ one.length = 0) := by
  rintro (h | h)
  · rw [(starts_slice two).mpr h] at h1; cases h1
  · have := (len0_iff one).mp (by lia)
    rw [this] at h2; simp at h2
theorem ends_item {c : Nat} (hc : one.cps.toList.getLast? = some c) : Txt.endswith one (Str.ofString "/") = true ↔ c = 47 := by
  have hl : one.length = one.cps.toList.length := str_len one
  rw [ends_iff, hl, ← List.getLast?_eq_getElem?, hc]
  constructor
  · rintro ⟨_, h⟩; exact Option.some.inj h
  · rintro rfl
    refine ⟨?_, rfl⟩
    cases e : one.cps.toList with
    | nil => rw [e] at hc; cases hc
    | cons a b => simp
theorem other3 {c : Nat} (h1 : (Txt.slice two none (some 1) == Str.ofString "/") = false) (h2 : (one == Str.ofString "") = false) (hc : one.cps.toList.getLast? = some c) (h3 : c ≠ 47) : signsL one D ++ signsL (Str.ofString "/") D = otherL one two D := by
  unfold otherL; rw [if_neg (other_not h1 h2), if_neg (fun e => h3 ((ends_item hc).mp e))]
theorem other4 {c : Nat} (h1 : (Txt.slice two none (some 1) == Str.ofString "/") = false) (h2 : (one == Str.ofString "") = false) (hc : one.cps.toList.getLast? = some c) (h3 : c = 47) : signsL one D = otherL one two D := by
  unfold otherL; rw [if_neg (other_not h1 h2), if_pos ((ends_item hc).mpr h3)]
/-- all that the law asks of the two paths -/
structure Ties (xa xb : Str) (H O g : List Str) : Prop where
  same : (xa == xb) = decide (H = O)
  ta : xa = Txt.join (Str.ofString "") (H ++ g)
  tb : xb = Txt.join (Str.ofString "") (O ++ g)
  na : normS xa = (walkS (H ++ g)).1
  ba : Txt.slice xa (some (Txt.rfind xa (Str.ofString "/") + 1)) none = (walkS (H ++ g)).2
  nb : normS xb = (walkS (O ++ g)).1
  bb : Txt.slice xb (some (Txt.rfind xb (Str.ofString "/") + 1)) none = (walkS (O ++ g)).2
theorem ties (hk : ∀ p ∈ D, ∃ c, p.1 = ⟨#[c]⟩) (h1 : ∀ c ∈ one.cps.toList, c ≠ 62) (h2 : ∀ c ∈ two.cps.toList, c ≠ 62) :
    Ties (joinS (escS one D) (escS two D)) (escS (joinS one two) D) (aheadL (signsL one D) (signsL two D) [Str.ofString "/"]) (otherL one two D) (signsL two D) := by
  have ea := join_signs (ones_signs one D) (ones_signs two D) (esc_signs hk h1) (esc_signs hk h2)
  have eb := behind_signs hk h1 h2
  have oa : Ones (aheadL (signsL one D) (signsL two D) [Str.ofString "/"]) := ones_ahead (ones_signs one D) ones_slash
  have ob := ones_other one two D
  have og := ones_signs two D
  exact ⟨same_iff oa ob og ea eb, text_of_cps ea, text_of_cps eb, norm_walk (ones_app oa og) ea, base_walk (ones_app oa og) ea, norm_walk (ones_app ob og) eb, base_walk (ones_app ob og) eb⟩
end
theorem sum_pick {prog : Program} {w : World} {A : Around} {E : Value → Shared → Prop} {s : Shared} {h₀ : Heap} {L l : Addr} {m : Str → Option Value} {news : List (Addr × Obj)} {vs : List Value} {ns : List Int} {lo hi st : Option Int} {Q : Value → Shared → Prop}
    (F : Fr h₀ L s.heap m) (N : News h₀ L s.heap news) (hh : A.handled = none) (hl : s.heap.IsList l (slicePick vs.toArray lo hi st)) (hi' : IntsAre vs ns)
    (h : ∀ h' tk t' n, Fr h₀ L h' m → News h₀ L h' news → Q (.int n t') { s with heap := h', toks := tk }) : wpAny (model prog w) A (call (.builtin "sum") [.ref l]) Q E s :=
  LSm.sum_ints (vs := (slicePick vs.toArray lo hi st).toList) F N hh (by rw [Array.toArray_toList]; exact hl) (hi'.pick lo hi st) fun h' tk t' F' N' => h h' tk t' _ F' N'
theorem fmod512 (n : Int) : 0 ≤ n.fmod 512 ∧ n.fmod 512 < 512 := by
  rw [Int.fmod_eq_emod_of_nonneg n (by decide)]; lia
theorem good_pairs {T : List TE} (hT : GoodT T) : ∀ p ∈ T.map TE.pair, (∃ c, p.1 = ⟨#[c]⟩) ∧ p.2.length ≤ 5 := fun p hp => by
  obtain ⟨q, hq, rfl⟩ := List.mem_map.mp hp
  exact hT.2.1 q hq
theorem esc_len {x : Str} {T : List TE} (hx : x.length ≤ 20) (hT : GoodT T) : (escS x (T.map TE.pair)).length ≤ 200000 := by
  have b1 := rep_amp_len x
  have b2 := rep_gt_len (Txt.replace x (Str.ofString "&") (Str.ofString "&amp;"))
  have b3 := rep_lt_len (Txt.replace (Txt.replace x (Str.ofString "&") (Str.ofString "&amp;")) (Str.ofString ">") (Str.ofString "&gt;"))
  have b4 := repAll_length (T.map TE.pair) (Txt.replace (Txt.replace (Txt.replace x (Str.ofString "&") (Str.ofString "&amp;")) (Str.ofString ">") (Str.ofString "&gt;")) (Str.ofString "<") (Str.ofString "&lt;")) (good_pairs hT)
  have b5 : 5 ^ (T.map TE.pair).length ≤ 125 := Nat.le_trans (Nat.pow_le_pow_right (by decide) (show (T.map TE.pair).length ≤ 3 by rw [List.length_map]; exact hT.1)) (by decide)
  have b6 : 5 ^ (T.map TE.pair).length * (Txt.replace (Txt.replace (Txt.replace x (Str.ofString "&") (Str.ofString "&amp;")) (Str.ofString ">") (Str.ofString "&gt;")) (Str.ofString "<") (Str.ofString "&lt;")).length ≤ 125 * 1600 := Nat.mul_le_mul b5 (by lia)
  unfold escS
  lia
theorem joinS_len (x y : Str) : (joinS x y).length ≤ x.length + y.length + 1 := by
  have h1 : (Str.ofString "/").length = 1 := by decide +kernel
  unfold joinS
  split
  · lia
  · split
    · lia
    · split <;> simp only [Str.length_append] <;> lia
theorem signs_len {x : Str} {T : List TE} (hx : x.length ≤ 3) (hT : GoodT T) : (signsL x (T.map TE.pair)).length ≤ 625 * x.length := by
  have ob : ∀ c, (opened c (T.map TE.pair)).length ≤ 125 := fun c => by
    have := opened_bound (k := 0) hT.1 (fun q hq => (hT.2.1 q hq).2) c
    rw [List.drop_zero] at this; exact this
  have hb1 : ∀ c : Nat, (signsC (T.map TE.pair) c).length ≤ 625 := fun c => by
    have h1 := flat_le (g := fun d => opened ⟨#[d]⟩ (T.map TE.pair)) (n := 125) (fun c => ob _) (threeS c).cps.toList
    have h2 : (threeS c).cps.toList.length ≤ 5 := by have := threeS_len c; simpa [Str.length] using this
    unfold signsC; lia
  have h3 := flat_le hb1 x.cps.toList
  have h4 : x.length = x.cps.toList.length := str_len x
  unfold signsL
  lia
theorem slash_len : (Str.ofString "/").length = 1 := by decide +kernel
theorem ahead_len {f g s : List Str} : (aheadL f g s).length ≤ f.length + s.length := by
  unfold aheadL
  split
  · simp
  · split
    · simp
    · split
      · lia
      · rw [List.length_append]; lia
theorem other_len {one two : Str} {T : List TE} (h3 : one.length ≤ 3) (hT : GoodT T) : (otherL one two (T.map TE.pair)).length ≤ 2500 := by
  have h1 := signs_len h3 hT
  have h2 := signs_len (x := Str.ofString "/") (by rw [slash_len]; decide) hT
  rw [slash_len] at h2
  unfold otherL
  split
  · simp
  · split
    · lia
    · rw [List.length_append]; lia
theorem ones_len {l : List (Str × Tok)} {L : List Str} (e : l.map (·.1) = L) (h : Ones L) : ∀ q ∈ l, q.1.length ≤ 1 := fun q hq => by
  obtain ⟨c, hc⟩ := h q.1 (by rw [← e]; exact List.mem_map.mpr ⟨q, hq, rfl⟩)
  rw [hc]; exact Nat.le_refl _
theorem pairs_of {T T' : List TE} (e : T'.map TE.pair = T.map TE.pair) (hT : T.length ≤ 3) (h5 : ∀ q ∈ T, q.y.length ≤ 5) : T'.length ≤ 3 ∧ ∀ q ∈ T', q.y.length ≤ 5 := by
  refine ⟨?_, fun q hq => ?_⟩
  · have := congrArg List.length e
    simp only [List.length_map] at this
    lia
  · have h1 : q.pair ∈ T.map TE.pair := by rw [← e]; exact List.mem_map.mpr ⟨q, hq, rfl⟩
    obtain ⟨p, hp, e2⟩ := List.mem_map.mp h1
    have : p.y = q.y := congrArg Prod.snd e2
    rw [← this]; exact h5 p hp
/-- what comes back is new, or the given list: on the ledger -/
theorem end_news {h₀ h h' : Heap} {L a1 b : Addr} {o o1 : Obj} {news : List (Addr × Obj)} (N : News h₀ L h' news) (nw : ∀ b o, h.get? b = none → h'.get? b = some o → News h₀ L h' ((b, o) :: news)) (ha : (a1, o1) ∈ news)
    (e : h.get? b = none ∨ b = a1) (hb : h'.get? b = some o) : News h₀ L h' ((b, o) :: news) := by
  rcases e with e | rfl
  · exact nw _ _ e hb
  · intro p hp
    rcases List.mem_cons.mp hp with rfl | hp
    · exact ⟨hb, (N _ ha).2⟩
    · exact N p hp
theorem len_of {l : List (Str × Tok)} {L : List Str} {n : Nat} (e : l.map (·.1) = L) (h : L.length ≤ n) : l.length ≤ n := by rw [← e, List.length_map] at h; exact h
theorem signs_len3 {x : Str} {T : List TE} (hx : x.length ≤ 3) (hT : GoodT T) : (signsL x (T.map TE.pair)).length ≤ 1875 := by
  have := signs_len hx hT
  lia
theorem add1_le {b : Str × Tok} {a : Nat} (h : a ≤ 1875) : a + [b].length ≤ 2000000 := by rw [List.length_singleton]; lia
theorem le2M {a : Nat} (h : a ≤ 1875) : a ≤ 2000000 := Nat.le_trans h (by decide)
theorem one_list {h₀ h : Heap} {L a : Addr} {news : List (Addr × Obj)} {x : Str} {t : Tok} {c : Nat} (N : News h₀ L h news) (hm : (a, W.listOf #[Value.str x t] c) ∈ news) : h.IsList a (strValues [(x, t)]).toArray := ⟨_, N.get hm, rfl, _, rfl⟩
theorem strs_list {h₀ h : Heap} {L a : Addr} {news : List (Addr × Obj)} {l : List (Str × Tok)} {c : Nat} (N : News h₀ L h news) (hm : (a, W.listOf (strValues l).toArray c) ∈ news) : h.IsList a (strValues l).toArray := ⟨_, N.get hm, rfl, _, rfl⟩
/-- where the choice of `other` ends -/
def OtherEnd (h₀ : Heap) (L : Addr) (m : Str → Option Value) (news : List (Addr × Obj)) (xs : List Str) (s : Shared) (f : Flow) (s' : Shared) : Prop :=
  f = .next ∧ ∃ ao co lo h' k m', s' = { s with heap := h', toks := k } ∧ lo.map (·.1) = xs ∧ Fr h₀ L h' m' ∧ News h₀ L h' ((ao, W.listOf (strValues lo).toArray co) :: news) ∧ ∀ z, m' z = if z = Str.ofString "other" then some (.ref ao) else m z
theorem cut_other {M : Model} {A : Around} {t : Sem Flow} {Q : Flow → Shared → Prop} {E : Value → Shared → Prop} {s : Shared} {h₀ : Heap} {L : Addr} {m : Str → Option Value} {news : List (Addr × Obj)} (xs : List Str) (F : Fr h₀ L s.heap m) (N : News h₀ L s.heap news)
    (h1 : wpAny M A t (OtherEnd h₀ L m news xs s) E s)
    (h2 : ∀ ao co lo h' k, lo.map (·.1) = xs → Fr h₀ L h' (fun z => if z = Str.ofString "other" then some (.ref ao) else m z) → News h₀ L h' ((ao, W.listOf (strValues lo).toArray co) :: news) → Q .next { s with heap := h', toks := k }) : wpAny M A t Q E s := by
  have _ := F
  have _ := N
  refine wpAny_mono h1 (fun f s' hs => ?_) fun _ _ e => e
  obtain ⟨rfl, ao, co, lo, h', k, m', rfl, e, F', N', hm⟩ := hs
  exact h2 ao co lo h' k e (by rw [show (fun z => if z = Str.ofString "other" then some (Value.ref ao) else m z) = m' from funext fun z => (hm z).symm]; exact F') N'
theorem sum_le {a b : Nat} (h1 : a ≤ 5000) (h2 : b ≤ 5000) : a + b ≤ 2000000 := by lia
theorem news_drop2 {h₀ h : Heap} {L : Addr} {a b : Addr × Obj} {news : List (Addr × Obj)} (N : News h₀ L h (a :: b :: news)) : News h₀ L h (a :: news) := fun p hp => N p (by
  rcases List.mem_cons.mp hp with rfl | hp
  · exact .head _
  · exact .tail _ (.tail _ hp))
theorem text_last {prog : Program} {w : World} {A : Around} {E : Value → Shared → Prop} {s : Shared} {Q : Value → Shared → Prop} {value slice : PySem.Expr} {x : Str} {t u : Tok} {k : Int} (hk : k = -1) (hne : (x == Str.ofString "") = false) (hx : x.length ≤ 3)
    (h : ∀ c : Nat, x.cps.toList.getLast? = some c → Q (.str ⟨#[c]⟩ s.toks) { s with toks := s.toks + 1 })
    (hs : subscripted slice false (.str x t) (.int k u) = operate [.str x t, .int k u] (getItem (.str x t) (.int k u)) := by with_unfolding_all rfl) :
    wpAny (model prog w) A (subscriptTail value slice (.str x t) (.int k u)) Q E s := by
  subst hk
  have hl : x.length = x.cps.toList.length := str_len x
  have h0 : x.length ≠ 0 := fun e => by
    have := (len0_iff x).mp (by lia)
    rw [this] at hne; simp at hne
  have hlt : x.length - 1 < x.cps.size := by
    have : x.cps.size = x.length := rfl
    lia
  have hlast : x.cps.toList.getLast? = some (x.cps[x.length - 1]'hlt) := by
    rw [List.getLast?_eq_getElem?, ← hl, Array.getElem?_toList]
    exact Array.getElem?_eq_getElem hlt
  refine tail_any (typeIs_str _ x t) slot_str_getitem.lookup (PySem.P.getItem_str (c := x.cps[x.length - 1]'hlt) (by decide) ?_ (h _ hlast)) hs
  have e1 : PySem.seqIndex? (-1) x.length = some (x.length - 1) := by
    unfold PySem.seqIndex?
    have h3 : (-1 : Int) + (x.length : Int) = ((x.length - 1 : Nat) : Int) := by lia
    have h4 : ((x.length - 1 : Nat) : Int) < (x.length : Int) := by lia
    simp only [show ((-1 : Int) < 0) from by decide, if_true, h3, Int.natCast_nonneg, decide_true, h4, Bool.and_self, Int.toNat_natCast]
  rw [e1]
  exact Array.getElem?_eq_getElem hlt
theorem sign_is {c : Nat} (h : ((⟨#[c]⟩ : Str) != Str.ofString "/") = false) : c = 47 := by
  rw [sign_slash] at h
  have : (⟨#[c]⟩ : Str) = ⟨#[47]⟩ := by simpa using h
  injection this with this
  simpa using this
theorem sign_isnt {c : Nat} (h : ((⟨#[c]⟩ : Str) != Str.ofString "/") = true) : c ≠ 47 := by
  rintro rfl
  rw [sign_slash] at h
  simp at h
theorem news_dup {h₀ h : Heap} {L : Addr} {a : Addr × Obj} {news : List (Addr × Obj)} (N : News h₀ L h news) (ha : a ∈ news) : News h₀ L h (a :: news) := fun p hp => N p (by
  rcases List.mem_cons.mp hp with rfl | hp
  · exact ha
  · exact hp)
theorem ones_sum : ∀ {L : List Str}, Ones L → (L.map (·.length)).sum = L.length
  | [], _ => rfl
  | x :: L, h => by
    obtain ⟨c, hc⟩ := h x (.head _)
    rw [List.map_cons, List.sum_cons, ones_sum (fun s hs => h s (.tail _ hs)), hc]
    show 1 + L.length = L.length + 1
    lia
theorem joinOk_ones {L : List Str} (h : Ones L) (hz : L.length ≤ 10000) : JoinOk (Str.ofString "") L = true := by
  refine joinOk_of ?_
  have h1 : (Str.ofString "").length = 0 := by decide +kernel
  rw [h1, ones_sum h]
  lia
theorem z_of {l l' : List (Str × Tok)} {M : List Str} (e : (l ++ l').map (·.1) = M) (h1 : l.length ≤ 2500) (h2 : l'.length ≤ 1875) : M.length ≤ 10000 ∧ (l ++ l').length ≤ 5000 := by
  have h := congrArg List.length e
  rw [List.length_map, List.length_append] at h
  rw [List.length_append]
  lia
theorem slash_le : (Str.ofString "/").length ≤ 3 := by rw [slash_len]; decide
section
variable {prog : Program} {w : World} {A : Around} {E : Value → Shared → Prop} {s : Shared} {a b : Addr} {Q : Value → Shared → Prop} {x y x' y' : Str} {t u t' u' : Tok}
theorem ne_pairs_same (ha : s.heap.IsTuple a #[.str x t, .str y u]) (hb : s.heap.IsTuple b #[.str x' t', .str y' u']) (hx : x = x') (hy : y = y') (hu : A.units < cLine) (h : Q (.bool false) s) : wpAny (model prog w) A (compareOp .NotEq (.ref a) (.ref b)) Q E s := by
  subst hx
  subst hy
  refine ne_pairs ha hb hu ?_
  simpa using h
theorem eq_pairs_same (ha : s.heap.IsTuple a #[.str x t, .str y u]) (hb : s.heap.IsTuple b #[.str x' t', .str y' u']) (hx : x = x') (hy : y = y') (hu : A.units < cLine) (h : Q (.bool true) s) : wpAny (model prog w) A (compareOp .Eq (.ref a) (.ref b)) Q E s := by
  subst hx
  subst hy
  refine eq_pairs ha hb hu ?_
  simpa using h
theorem both_len {x y : Str} (hx : x.length ≤ 200000) (hy : y.length ≤ 200000) : (joinS x y).length ≤ 1048576 := Nat.le_trans (joinS_len x y) (by lia)
end
theorem news_law {h₀ h : Heap} {L : Addr} {a b x y c : Addr × Obj} {acc : List (Addr × Obj)} (N : News h₀ L h (a :: b :: x :: y :: c :: acc)) : News h₀ L h (a :: b :: c :: acc) := fun p hp => N p (by
  rcases List.mem_cons.mp hp with rfl | hp
  · exact .head _
  rcases List.mem_cons.mp hp with rfl | hp
  · exact .tail _ (.head _)
  · exact .tail _ (.tail _ (.tail _ (.tail _ hp))))
theorem fr_tail2 {h₀ h : Heap} {L : Addr} {a b : Str} {u v : Option Value} {m : Str → Option Value} (F : Fr h₀ L h (fun y => if y = a then u else if y = b then v else m y)) : ∃ m' : Str → Option Value, Fr h₀ L h (fun y => if y = a then u else if y = b then v else m' y) := ⟨m, F⟩
theorem behind_len {one two : Str} {T : List TE} (h : (joinS one two).length ≤ one.length + two.length + 1) (h1 : one.length ≤ 3) (h2 : two.length ≤ 3) (hT : GoodT T) : (escS (joinS one two) (T.map TE.pair)).length ≤ 1048576 :=
  Nat.le_trans (esc_len (by lia) hT) (by decide)
end Mine

namespace Mine
open LCg
section
variable {prog : Program} {w : World} {A : Around} {E : Value → Shared → Prop} {s : Shared} {h₀ : Heap} {L : Addr} {m : Str → Option Value} {env : Env}
theorem eval_dictcomp {elt iter : PySem.Expr} {x : Str} {px : Pos} {scope : Scope} {cl : List (Str × Addr)} {pos : Pos} {Q : Value → Shared → Prop} (F₀ : Fr h₀ L s.heap m)
    (hclos : closureFor scope env = pure cl) (hcell : ∀ z ∈ scope.names, z.2 ≠ .cell) (hkind : scope.kind = .function)
    (hnames : ∀ z ∈ scope.names, z.2 = .local → scope.names.lookup z.1 = some .local) (hx : scope.names.lookup x = some .local)
    (h : wpAny (model prog w) A (eval iter env) (SrcD prog w A h₀ L m env elt x scope cl (fun s₂ => FinE h₀ L m s₂ Q)) E s)
    (hs : ∀ x, foldedSetIterable iter env x = pure x := by intro _; rfl) :
    wpAny (model prog w) A (eval (.ListComp elt [⟨.Name x px, iter, [], 0⟩] scope pos) env) Q E s := by
  have _ := F₀
  rw [eval_ListComp]
  refine wpAny_comprehension_free (use := none) rfl hs hclos hkind hnames (wpAny_mono h (fun xv s₁ h₁ => ?_) fun _ _ e => e)
  obtain ⟨d, od, kvs, ep, news, rfl, hh, F, N, lo, hm, r, hsz, R⟩ := h₁
  have hod := N.get hm
  have hlt : d < s₁.heap.objs.size := Heap.lt_size hod
  refine wpAny_pyIter_dict lo (dict_at r hod) ?_
  have up : ∀ o b ob, s₁.heap.get? b = some ob → (s₁.heap.push o).get? b = some ob := fun o b ob e => Heap.get?_push_of_some _ e
  refine block_U (Walks.dictKeys hh s₁.heap.objs.size d (Nat.ne_of_lt hlt) kvs ep) hsz (fun i h st => by obtain ⟨o, e, _⟩ := st.1; exact ⟨o, e⟩)
    (fun i h h' o nw st e e' k N' S => ⟨by obtain ⟨o', q, r'⟩ := st.1; rw [e] at q; cases q; exact ⟨o, e', r'⟩, dict_at r (N'.get S)⟩) hcell hkind hx ⟨⟨_, Heap.get?_push_size _ rfl, rfl, rfl⟩, dict_at r (up _ _ _ hod)⟩ (fun b hb => ?_)
    (F.keeps (up _)) (N.grown (up _)) (Nat.ne_of_lt F.ns.lt) (next_is_new F) (fun p hp => Nat.ne_of_lt (Heap.lt_size (N p hp).1)) hm (R _ ⟨_, rfl⟩) ?_
  · show b < (s₁.heap.push _).objs.size
    rw [Heap.size_push]
    rcases List.mem_cons.mp hb with rfl | hb
    · exact Nat.lt_succ_self _
    · rw [List.mem_singleton.mp hb]; exact Nat.lt_succ_of_lt hlt
  · intro D C h' tk m' ys news' F' N' o1 hn hC₀ hD₀ hCL hDL hCD offC fin
    refine ⟨m', hn, fun h'' hs'' => fin D h'' tk (F'.change hs'' hCL hC₀) (fun p hp => ?_) o1⟩
    refine ⟨hs''.extBut _ _ ?_ (N' p hp).1, (N' p hp).2⟩
    rcases List.mem_cons.mp hp with rfl | hp
    · exact Ne.symm hCD
    · exact offC p hp
theorem eq_refs {a b : Addr} (h : a ≠ b → SeqAt.RcAt A s (.ref a) (.ref b) true) : SeqAt.EqAt A s (.ref a) (.ref b) true := fun prog w E Q hq => by
  unfold eqBool
  refine wpAny_holding ?_
  refine wpAny_ite_split (fun _ => wpAny_bind (wpAny_rule (wpAny_pure hq))) (fun hne => ?_)
  exact wpAny_bind (h (fun e => hne (by rw [e]; simp)) prog w E _ (wpAny_truthy_bool hq))
theorem eq_ents {a b : Addr} {Q : Value → Shared → Prop} {ys zs : List Value} {T₁ T₂ : List TE} (ha : s.heap.IsList a ys.toArray) (hb : s.heap.IsList b zs.toArray) (e₁ : EntsAt s.heap ys T₁) (e₂ : EntsAt s.heap zs T₂) (hp : T₁.map TE.pair = T₂.map TE.pair)
    (hu : A.units < cLine) (hu2 : A.in1.units < cLine) (h : Q (.bool true) s) : wpAny (model prog w) A (compareOp .Eq (.ref a) (.ref b)) Q E s := by
  have hl : T₁.length = T₂.length := by have := congrArg List.length hp; simpa using this
  refine SeqAt.eq_listAt (e := fun _ => true) ha hb (by rw [List.size_toArray, List.size_toArray, e₁.1, e₂.1, hl]) hu (fun j h1 h2 => ?_) ?_
  · have j1 : j < T₁.length := by rw [List.size_toArray, e₁.1] at h1; exact h1
    have j2 : j < T₂.length := by lia
    obtain ⟨b1, v1, t1⟩ := e₁.2 j _ (List.getElem?_eq_getElem j1)
    obtain ⟨b2, v2, t2⟩ := e₂.2 j _ (List.getElem?_eq_getElem j2)
    have w1 : ys.toArray[j] = .ref b1 := by
      have : ys[j]? = some ys[j] := List.getElem?_eq_getElem (by simpa using h1)
      rw [this] at v1; simpa using v1
    have w2 : zs.toArray[j] = .ref b2 := by
      have : zs[j]? = some zs[j] := List.getElem?_eq_getElem (by simpa using h2)
      rw [this] at v2; simpa using v2
    rw [w1, w2]
    refine eq_refs fun _ => ?_
    have hq : TE.pair T₁[j] = TE.pair T₂[j] := by
      have : (T₁.map TE.pair)[j]? = (T₂.map TE.pair)[j]? := by rw [hp]
      rw [List.getElem?_map, List.getElem?_map, List.getElem?_eq_getElem j1, List.getElem?_eq_getElem j2] at this
      simpa using this
    have q1 : (T₁[j]).x = (T₂[j]).x := congrArg Prod.fst hq
    have q2 : (T₁[j]).y = (T₂[j]).y := congrArg Prod.snd hq
    have := SeqAt.RcAt.tuples (A := A.in1) (s := s) (e := fun j' => if j' = 0 then (T₁[j]).x == (T₂[j]).x else (T₁[j]).y == (T₂[j]).y) t1 t2 hu2 pair_at
    have ev : ((List.range (min (pairOf (T₁[j]).x (T₁[j]).t (T₁[j]).y (T₁[j]).u).size (pairOf (T₂[j]).x (T₂[j]).t (T₂[j]).y (T₂[j]).u).size)).all (fun j' => if j' = 0 then (T₁[j]).x == (T₂[j]).x else (T₁[j]).y == (T₂[j]).y) && (pairOf (T₁[j]).x (T₁[j]).t (T₁[j]).y (T₁[j]).u).size == (pairOf (T₂[j]).x (T₂[j]).t (T₂[j]).y (T₂[j]).u).size) = true := by
      show (([0, 1].all fun j' => if j' = 0 then (T₁[j]).x == (T₂[j]).x else (T₁[j]).y == (T₂[j]).y) && (2 == 2)) = true
      simp [q1, q2]
    rw [← ev]
    exact this
  · have : ((List.range ys.toArray.size).all fun _ => true) = true := by simp
    rw [this]; exact h
end
end Mine

theorem Mine.execs_cons_tok {M : Model} {A : Around} {E : Value → Shared → Prop} {s : Shared} {env : Env} {st : Stmt} {rest : List Stmt} {Q : Flow → Shared → Prop}
    (h : wpAny M A (exec st env) (fun f s' => s.toks ≤ s'.toks → match f with | .next => wpAny M A (execs rest env) Q E s' | f => Q f s') E s) : wpAny M A (execs (st :: rest) env) Q E s := wpAny_execs_cons (Mine.any_toksQ h)
def Mine.Past3 : Prop := True
def Mine.TurnQ (q : Mine.TE) (T : List Mine.TE) : Prop := q ∈ T
section
set_option maxHeartbeats 8000000 in
theorem PySem.Challenge.cw_ij0048_01_holds : PySem.Challenge.rw_ij0048_01.Holds :=
  Mine.hd (by
  k_with_none
  k_with "call builtin:issubclass" => (k_here; (with_reducible show wpAny _ _ (call (Value.builtin "issubclass") [Value.type "str", Value.ref _]) _ _ _); k_dflt (refine' Mine.issub_tuple (by exact News.get (by k_asm) (by k_mem)) ?_; k_whole); intro tk')
  k_with "call ref" => (k_here; (with_reducible show wpAny _ _ (call (Value.ref 94) [Value.str _ _]) _ _ _); k_dflt (k_call_by "use" (Mine.fspath_tells _ _ _ _ _ _)); (case kp => trivial); intro v' h' tk' F' N' st' r'; subst r'; clear st'; (try dsimp only); (try k_fold); (try k_sweep))
  k_with "call ref" => (k_here; (with_reducible show wpAny _ _ (call (Value.ref 108) [Value.str _ _]) _ _ _); k_dflt (k_call_by "use" (Mine.getsep_tells _ _ _ _ _ _)); (case kp => trivial); intro v' h' tk' F' N' st' r'; (try dsimp only at r'); obtain ⟨t', r'⟩ := r'; subst r'; clear st'; (try dsimp only); (try k_fold); (try k_sweep))
  k_with "call ref" => (k_here; (with_reducible show wpAny _ _ (call (Value.ref 122) [Value.str _ _]) _ _ _); k_dflt (k_call_by "new" (Mine.splitroot_tells _ _ _ _ _ _ (by first | assumption | lia))); (case kp => trivial); intro v' h' tk' F' N' nw' r'; (try dsimp only at r'); obtain ⟨a', t1', t2', t3', r', r2', r3'⟩ := r'; subst r'; (replace N' := nw' _ _ r2' r3'); clear nw' r2' r3'; (try dsimp only); (try k_fold); (try k_sweep))
  k_with "storeName" => (k_here; k_dflt (refine' Mine.store_put (by k_asm) (by k_asm) ?_ (by rfl) (by rfl); k_whole; intro h' F' N'; (try k_sweep)))
  k_with "exec For Name Call cons nil" => (k_here; (rename Fr _ _ _ _ => lF'); (with_unfolding_all refine' Mine.For_tok lF' (by exact rfl) (by exact rfl) ?_; k_whole))
  k_with "exec For" => (k_here; (rename Fr _ _ _ _ => lF'); (with_unfolding_all refine' Mine.For_tok lF' (by exact rfl) (by exact rfl) ?_; k_whole))
  k_with "pyIter ref" => refine Mine.halt ?_
  k_with "eval BinOp" => ((fail_if_success (rename Mine.Past => pst)); (with_reducible show wpAny _ _ (eval (Expr.BinOp _ _ (Expr.IfExp _ _ _ _) _) _) _ _ _); refine Mine.halt ?_)
  k_with "subscriptTail" => ((rename Mine.Past2 => pst); refine Mine.halt ?_)
  k_with "subscriptTail" => ((with_reducible show wpAny _ _ (subscriptTail _ _ (Value.ref _) (Value.int _ _)) _ _ _); k_dflt (refine Mine.text_item (lo := tkL + 1) (b := 3) (l := [(Str.ofString "u", kN + 1), (Str.ofString "../", kN + 1 + 1), (Str.ofString "", kN + 1 + 1 + 1), (Str.ofString "/", kN + 1 + 1 + 1 + 1), (Str.ofString "a", kN + 1 + 1 + 1 + 1 + 1), (Str.ofString "v", kN + 1 + 1 + 1 + 1 + 1 + 1), (Str.ofString ".", kN + 1 + 1 + 1 + 1 + 1 + 1 + 1), (Str.ofString "w", kN + 1 + 1 + 1 + 1 + 1 + 1 + 1 + 1)]) (News.isList (by k_asm) (by k_mem)) (by lia) (by simp only [List.length_cons, List.length_nil]; lia) (by simp only [List.length_cons, List.length_nil]; lia) (Mine.texts_ok (Nat.succ_le_succ hkN) _ (by (try dsimp only); lia)) ?_); intro yT tT yb tb1 tb2; (try dsimp only at tb2))
  k_with "subscriptTail" => ((with_reducible show wpAny _ _ (subscriptTail _ _ (Value.str _ _) (Value.ref _)) _ _ _); k_dflt (refine Mine.text_two_tail (s := ⟨_, _, _, _, _⟩) (lo := tkL + 1) (by k_asm) (by k_asm) (by lia) (by (try dsimp only); lia) ?_); intro zT vT kT hT' F' N' zb vb1 vb2 vb3; (try dsimp only at vb3); (try k_sweep))
  k_with "subscriptTail" => (k_here; (with_reducible show wpAny _ _ (subscriptTail _ _ (Value.str _ _) (Value.int _ _)) _ _ _); k_dflt (refine' Mine.key_item_tail (by lia) (by (rw [Mine.keys_len]; lia)) (by (rw [Mine.keys_len]; lia)) ?_; k_whole); intro cK)
  k_with "binaryOp Add str str" => ((with_reducible show wpAny _ _ (binaryOp _ (Value.str _ _) (Value.str _ _)) _ _ _); k_dflt (refine Mine.text_add (lo := tkL + 1) (by lia) (by lia) (by (try dsimp only); lia) (by (try dsimp only); lia) ?_); intro vA kA vA1 vA2 vA3; (try dsimp only at vA3))
  k_with "setItem ref" => refine Mine.halt ?_
  k_with "execs cons" => ((with_reducible refine wpAny_execs_cons ?_); try dsimp only)
  k_with "execs nil" => ((with_reducible refine wpAny_execs_nil ?_); try dsimp only)
  k_with "exec Assign cons ListComp" => ((rename Mine.Past => pst); k_here; k_dflt (refine Mine.assign_dictcomp (F₀ := by k_asm) (by rfl) (by with_unfolding_all rfl) (by with_unfolding_all rfl) (by decide) (by rfl) (by decide) (by rfl) (by rfl) (by rfl) ?_))
  k_with "execs cons" => ((rename Mine.Past3 => pst); (with_reducible refine Mine.execs_cons_tok ?_); try dsimp only)
  k_with "call ref" => ((rename Mine.Past => pst); (with_reducible show wpAny _ _ (call (Value.ref _) _) _ _ _); refine Mine.halt ?_)
  k_with "exec If" => ((rename Mine.Past => pst); refine Mine.halt ?_)
  k_with "binaryOp Add" => (k_here; (with_reducible show wpAny _ _ (binaryOp _ (Value.ref _) (Value.ref _)) _ _ _); k_dflt (refine' Mine.cat_strs (by k_asm) (by k_asm) (by exact Mine.strs_list (by k_asm) (by k_mem)) (by exact Mine.strs_list (by k_asm) (by k_mem)) (by exact Mine.sum_le (by assumption) (by assumption)) ?_; k_whole); intro c' h' F' N' l1; (try k_sweep))
  k_with "subscriptTail Name UnaryOp str int" => ((rename Mine.Past => pst); (with_reducible show wpAny _ _ (subscriptTail _ _ (Value.str _ _) (Value.int _ _)) _ _ _); k_dflt (refine Mine.text_last (by first | rfl | decide) (by with_reducible assumption) g1.1 ?_); intro cL hcL)
  k_with "call builtin:str.join" => ((with_reducible show wpAny _ _ (call (Value.builtin "str.join") [Value.str _ _, Value.ref _]) _ _ _); k_dflt (refine SC.join (Mine.strs_list (by k_asm) (by k_mem)) (by first | exact eH | exact eO) (by first | exact Mine.joinOk_ones oH zH | exact Mine.joinOk_ones oO zO) ?_); intro tj kj)
  k_with "compareOp NotEq ref ref" => ((with_reducible show wpAny _ _ (compareOp CmpOp.NotEq (Value.ref _) (Value.ref _)) _ _ _); k_dflt (refine Mine.ne_pairs_same (News.isTup (by k_asm) (by k_mem)) (News.isTup (by k_asm) (by k_mem)) tna tba (by ktr_units) ?_))
  k_with "compareOp Eq ref ref" => ((with_reducible show wpAny _ _ (compareOp CmpOp.Eq (Value.ref _) (Value.ref _)) _ _ _); k_dflt (refine Mine.eq_pairs_same (News.isTup (by k_asm) (by k_mem)) (News.isTup (by k_asm) (by k_mem)) tnb tbb (by ktr_units) ?_))
  k_with "compareOp Eq ref ref" => ((with_reducible show wpAny _ _ (compareOp CmpOp.Eq (Value.ref _) (Value.ref _)) _ _ _); k_dflt (refine Mine.eq_strs (l := lh) (l' := lo) (Mine.strs_list (by k_asm) (by k_mem)) (Mine.strs_list (by k_asm) (by k_mem)) (by ktr_units) ?_))
  k_with "compareOp Eq ref ref" => ((with_reducible show wpAny _ _ (compareOp CmpOp.Eq (Value.ref _) (Value.ref _)) _ _ _); k_dflt (refine Mine.eq_ents (ys := ys) (zs := ys2) ⟨_, News.get (by k_asm) (by k_mem), rfl, _, rfl⟩ ⟨_, News.get (by k_asm) (by k_mem), rfl, _, rfl⟩ (hE.at (by k_asm) (by intro p hm; (repeat (first | exact hm | exact List.mem_append_left _ hm | exact List.mem_append_right _ hm | refine List.Mem.tail _ ?_)))) (hE2.at (by k_asm) (by intro p hm; (repeat (first | exact hm | exact List.mem_append_left _ hm | exact List.mem_append_right _ hm | refine List.Mem.tail _ ?_)))) (hp.trans hp2.symm) (by ktr_units) (by ktr_units) ?_))
  k_with "eval ListComp" => ((rename Mine.Past => pst); k_here; k_dflt (refine Mine.eval_dictcomp (F₀ := by k_asm) (by with_unfolding_all rfl) (by decide) (by rfl) (by decide) (by rfl) ?_))
  k_with "subscriptTail" => ((rename Mine.TurnQ _ _ => pst); (with_reducible show wpAny _ _ (subscriptTail _ _ (Value.ref _) (Value.str _ _)) _ _ _); k_dflt (refine Mine.item_raw (News.get (by k_asm) (by k_mem)) hraw lo' hq ?_); intro u')
  k_with "call builtin:sum" => (k_here; (with_reducible show wpAny _ _ (call (Value.builtin "sum") [Value.ref _]) _ _ _); k_dflt (refine' Mine.sum_pick (by k_asm) (by k_asm) (by rfl) (by exact News.isList (by k_asm) (by k_mem)) (by with_reducible assumption) ?_; k_whole); intro h' tk' t' n' F' N'; (try k_sweep))
  k_go0
  (all_goals try k_fold)
  k_steps
  refine Mine.go_on ?_
  rename Fr _ _ _ _ => F1
  rename News _ _ _ (_ :: _) => N1
  rename IsRange _ _ _ _ _ _ _ _ => R1
  rename Obj.IsDictOf (PySem.strKind _ _) _ _ => D1
  refine Mine.loop_tab rfl R1 F1 N1 (Mine.TabRaw.of_empty D1) ?_ ?_
  · rintro i t od T vn vt h tkL I oI hi hT hG hraw hdI hne F2 N2
    k_steps
    refine Mine.go_on ?_
    refine Mine.cut_num F2 N2 ?_ ?_
    · have past : Mine.Past := trivial
      k_steps
      all_goals exact ⟨_, _, _, _, rfl, rfl, by assumption, Mine.news_tail (by assumption)⟩
    · intro n tt h' kN F3 N3 hkN
      dsimp only at hkN
      have g1 := Mine.fmod8 n
      have g2 := Mine.fmod8 (n.fdiv 8)
      have g3 := Mine.fmod8 (n.fdiv 64)
      have past : Mine.Past2 := trivial
      k_steps
      refine Mine.go_on ?_
      rename Fr _ _ _ _ => F4
      rename News _ _ _ _ => N4
      refine Mine.set_tab F4 N4 (by k_mem) hraw (by lia) ?_
      intro hS odS rS FS keepS dS
      k_steps
      dsimp only at *
      refine Mine.tab_end FS (Mine.tab_news keepS dS (by k_mem) hdI (Mine.all3 (by k_mem) (by k_mem) (by k_mem)) (Mine.all3 (by exact Nat.ne_of_lt (by lia)) (by exact Nat.ne_of_lt (by lia)) (by exact Nat.ne_of_lt (by lia)))) hne hdI rS (Nat.le_trans (Mine.storeT_len ..) (by lia)) (Mine.storeT_good hG (by rw [Str.length_append]; lia) (by lia) (by lia) (by lia)) (by lia) (fun z z1 z2 z3 => by simp only [Mine.put, if_neg z1, if_neg z2, if_neg z3])
  · rintro od T vk vn vt h tk hT hG hraw htk F2 N2
    have past : Mine.Past := trivial
    have past3 : Mine.Past3 := trivial
    have gT : Mine.GoodT T := ⟨hT, fun q hq => ⟨(hG q hq).1, (hG q hq).2.1⟩, fun q hq => (hG q hq).2.2.1⟩
    k_steps
    rename (_ == sysModules) = false => lo'
    obtain ⟨ep, ka⟩ := hraw.kdk
    refine ⟨_, od, Mine.kvsOf T, ep, _, rfl, rfl, F2, N2, lo', List.mem_cons_self, ka, ?_, ?_⟩
    · show (T.map _).length ≤ _
      rw [List.length_map, sizeLine_eq]; lia
    rintro s₂ ⟨g, rfl⟩
    refine Mine.rest_dict List.mem_cons_self ?_ ?_
    · intro q t I C D oI oC ys acc m₂ h tk E' hq hC hx F3 N3 ne
      obtain ⟨n1, n2, n3⟩ := ne
      simp only [List.cons_append, List.nil_append] at N3
      have tq : Mine.TurnQ q T := hq
      have j1 := Heap.lt_size (N3 _ (.head _)).1
      have j2 := Heap.lt_size (N3 _ (.tail _ (.head _))).1
      have j3 := Heap.lt_size (N3 _ (.tail _ (.tail _ (.head _)))).1
      k_steps
      refine ⟨_, _, _, _, _, rfl, rfl, by k_asm, Mine.turn_news (by k_asm), Nat.ne_of_gt j1, Nat.ne_of_gt j2, Nat.ne_of_gt j3⟩
    · intro ys acc T' hE hp D h tk F3 N3 o1
      simp only [List.cons_append, List.nil_append] at N3
      k_steps
      refine Mine.go_on ?_
      k_dflt (k_call_by "use" (Mine.lprogram_tells _ _ _ _ _ _ (Mine.fmod512 _).1 (Mine.fmod512 _).2))
      case kp => trivial
      intro v1 h1 tk1 F4 N4 st1 r1
      obtain ⟨one, t1, rfl, g1⟩ := r1
      clear st1
      dsimp only at N4 ⊢
      k_sweep
      k_steps
      refine Mine.go_on ?_
      k_dflt (k_call_by "use" (Mine.lprogram_tells _ _ _ _ _ _ (Mine.fmod512 _).1 (Mine.fmod512 _).2))
      case kp => trivial
      intro v2 h2 tk2 F5 N5 st2 r2
      obtain ⟨two, t2, rfl, g2⟩ := r2
      clear st2
      dsimp only at N5 ⊢
      replace N5 := Mine.news_law (Mine.news_tail (Mine.news_tail N5))
      obtain ⟨mo, Fo⟩ := Mine.fr_tail2 F5
      clear F5
      k_sweep
      k_steps
      refine Mine.go_on ?_
      refine Mine.any_toksQ ?_
      k_dflt (k_call_by "use" (Mine.escape_tells _ _ _ _ one _ _ T (Nat.le_trans g1.1 (by decide)) gT))
      case kp => exact ⟨by (try dsimp only at *); lia, lo', od, News.get (by k_asm) (by k_mem), hraw⟩
      intro v3 h3 tk3 F6 N6 st3 r3 le3
      obtain ⟨t3, rfl⟩ := r3
      clear st3
      dsimp only at N6 le3 ⊢
      k_sweep
      k_steps
      refine Mine.go_on ?_
      refine Mine.any_toksQ ?_
      k_dflt (k_call_by "use" (Mine.escape_tells _ _ _ _ two _ _ T (Nat.le_trans g2.1 (by decide)) gT))
      case kp => exact ⟨by (try dsimp only at *); lia, lo', od, News.get (by k_asm) (by k_mem), hraw⟩
      intro v4 h4 tk4 F7 N7 st4 r4 le4
      obtain ⟨t4, rfl⟩ := r4
      clear st4
      dsimp only at N7 le4 ⊢
      k_sweep
      k_steps
      refine Mine.go_on ?_
      have eL1 := Mine.esc_len (x := one) (Nat.le_trans g1.1 (by decide)) gT
      have eL2 := Mine.esc_len (x := two) (Nat.le_trans g2.1 (by decide)) gT
      refine Mine.any_toksQ ?_
      k_dflt (k_call_by "use" (Mine.join_tells _ _ _ _ (Mine.escS one (T.map Mine.TE.pair)) (Mine.escS two (T.map Mine.TE.pair)) _ _ (Nat.le_trans eL1 (by decide)) (Nat.le_trans eL2 (by decide))))
      case kp => trivial
      intro v5 h5 tk5 F8 N8 st5 r5 le5
      obtain ⟨t5, r5⟩ := r5
      obtain ⟨xa, exa⟩ : ∃ xa, xa = Mine.joinS (Mine.escS one (T.map Mine.TE.pair)) (Mine.escS two (T.map Mine.TE.pair)) := ⟨_, rfl⟩
      rw [← exa] at r5
      subst r5
      clear st5
      dsimp only at N8 le5 ⊢
      k_sweep
      k_steps
      refine Mine.go_on ?_
      refine Mine.any_toksQ ?_
      k_dflt (k_call_by "use" (Mine.join_tells _ _ _ _ one two _ _ (Nat.le_trans g1.1 (by decide)) (Nat.le_trans g2.1 (by decide))))
      case kp => trivial
      intro v6 h6 tk6 F9 N9 st6 r6 le6
      obtain ⟨t6, rfl⟩ := r6
      clear st6
      dsimp only at N9 le6 ⊢
      k_sweep
      k_steps
      refine Mine.go_on ?_
      have jL := Mine.joinS_len one two
      have jL1 := g1.1
      have jL2 := g2.1
      k_dflt (k_call_by "use" (Mine.escape_tells _ _ _ _ (Mine.joinS one two) _ _ T (by lia) gT))
      case kp => exact ⟨by (try dsimp only at *); lia, lo', od, News.get (by k_asm) (by k_mem), hraw⟩
      intro v7 h7 tk7 F10 N10 st7 r7
      obtain ⟨t7, r7⟩ := r7
      obtain ⟨xb, exb⟩ : ∃ xb, xb = Mine.escS (Mine.joinS one two) (T.map Mine.TE.pair) := ⟨_, rfl⟩
      rw [← exb] at r7
      subst r7
      clear st7
      dsimp only at N10 ⊢
      k_sweep
      k_steps
      obtain ⟨hT3, hT5⟩ := Mine.pairs_of hp hT (fun q hq => (hG q hq).2.1)
      refine Mine.go_on ?_
      k_dflt (k_call_by "new" (Mine.lsigns_tells _ _ _ _ one _ D ys T' hT3 hT5 g1.1))
      case kp => exact ⟨⟨_, News.get (by k_asm) (by k_mem), rfl, _, rfl⟩, hE.at (by k_asm) (by intro p hp; (repeat (first | exact hp | refine List.Mem.tail _ ?_)))⟩
      intro v8 h8 tk8 F11 N11 nw8 r8
      obtain ⟨af, cf, lf, rfl, rn8, rg8, rm8⟩ := r8
      replace N11 := nw8 _ _ rn8 rg8
      clear nw8 rn8 rg8
      rw [hp] at rm8
      dsimp only at N11 ⊢
      k_sweep
      k_steps
      refine Mine.go_on ?_
      k_dflt (k_call_by "new" (Mine.lsigns_tells _ _ _ _ two _ D ys T' hT3 hT5 g2.1))
      case kp => exact ⟨⟨_, News.get (by k_asm) (by k_mem), rfl, _, rfl⟩, hE.at (by k_asm) (by intro p hp; (repeat (first | exact hp | refine List.Mem.tail _ ?_)))⟩
      intro v9 h9 tk9 F12 N12 nw9 r9
      obtain ⟨ag, cg, lg, rfl, rn9, rg9, rm9⟩ := r9
      replace N12 := nw9 _ _ rn9 rg9
      clear nw9 rn9 rg9
      rw [hp] at rm9
      dsimp only at N12 ⊢
      k_sweep
      k_steps
      have fL := Mine.len_of rm8 (Mine.signs_len3 g1.1 gT)
      have gL := Mine.len_of rm9 (Mine.signs_len3 g2.1 gT)
      have fL5 := Nat.le_trans fL (show 1875 ≤ 5000 by decide)
      have gL5 := Nat.le_trans gL (show 1875 ≤ 5000 by decide)
      refine Mine.go_on ?_
      k_dflt (k_call_by "new" (Mine.lahead_tells _ _ _ _ af ag _ cf lf lg [(Str.ofString "/", tk9 + 1)] (Mine.add1_le fL) (Mine.le2M gL)))
      case kp => exact ⟨News.get (by k_asm) (by k_mem), Mine.strs_list (c := cg) (by k_asm) (by k_mem), Mine.one_list (c := 0) (by k_asm) (by k_mem)⟩
      intro v10 h10 tk10 F13 N13 nw10 r10
      obtain ⟨ah, ch, lh, rfl, rn10, rg10, rm10⟩ := r10
      replace N13 := Mine.end_news N13 nw10 (by k_mem) rn10 rg10
      clear nw10 rn10 rg10
      replace rm10 : _ = Mine.aheadL _ _ [Str.ofString "/"] := rm10
      rw [rm8, rm9] at rm10
      have hL := Nat.le_trans (Mine.len_of rm10 (Nat.le_trans Mine.ahead_len (Nat.add_le_add_right (Mine.signs_len3 g1.1 gT) 1))) (show 1875 + 1 ≤ 2500 by decide)
      have hL5 := Nat.le_trans hL (show 2500 ≤ 5000 by decide)
      dsimp only at N13 ⊢
      replace N13 : News _ _ _ ((ah, _) :: (ag, _) :: (af, _) :: (D, LCg.lst ys) :: (_, od) :: (_, _) :: acc) := Mine.news_drop2 N13
      k_sweep
      k_steps
      rename Mine.Past3 => p3
      clear p3
      rename News _ _ _ _ => N14
      rename Fr _ _ _ _ => F14
      refine Mine.go_on ?_
      obtain ⟨g, egd⟩ : ∃ g, g = Mine.signsL two (T.map Mine.TE.pair) := ⟨_, rfl⟩
      obtain ⟨H, eHd⟩ : ∃ H, H = Mine.aheadL (Mine.signsL one (T.map Mine.TE.pair)) (Mine.signsL two (T.map Mine.TE.pair)) [Str.ofString "/"] := ⟨_, rfl⟩
      obtain ⟨O, eOd⟩ : ∃ O, O = Mine.otherL one two (T.map Mine.TE.pair) := ⟨_, rfl⟩
      rw [← eHd] at rm10
      rw [← egd] at rm9
      refine Mine.cut_other O F14 N14 ?_ ?_
      · refine wpAny_If ?_
        k_steps
        · exact ⟨rfl, _, 0, [], _, _, _, rfl, by rw [eOd]; exact Mine.other1 (by assumption), by k_asm, by assumption, fun z => rfl⟩
        · exact ⟨rfl, _, 0, [], _, _, _, rfl, by rw [eOd]; exact Mine.other2 (by assumption), by k_asm, by assumption, fun z => rfl⟩
        · refine Mine.go_on ?_
          refine wpAny_If ?_
          k_steps
          · refine Mine.go_on ?_
            k_dflt (k_call_by "new" (Mine.lsigns_tells _ _ _ _ (Str.ofString "/") _ D ys T' hT3 hT5 Mine.slash_le))
            case kp => exact ⟨⟨_, News.get (by k_asm) (by k_mem), rfl, _, rfl⟩, hE.at (by k_asm) (by intro p hp; (repeat (first | exact hp | refine List.Mem.tail _ ?_)))⟩
            intro v11 h11 tk11 F15 N15 nw11 r11
            obtain ⟨as, cs, ls, rfl, rn11, rg11, rm11⟩ := r11
            replace N15 := nw11 _ _ rn11 rg11
            clear nw11 rn11 rg11
            rw [hp] at rm11
            have sL5 : ls.length ≤ 5000 := Mine.len_of rm11 (Nat.le_trans (Mine.signs_len3 Mine.slash_le gT) (by decide))
            dsimp only at N15 ⊢
            k_sweep
            k_steps
            exact ⟨rfl, _, 0, lf ++ ls, _, _, _, rfl, by rw [List.map_append, rm8, rm11, eOd]; exact Mine.other3 (by assumption) (by assumption) hcL (Mine.sign_isnt (by assumption)), by k_asm, Mine.news_drop2 (by assumption), fun z => rfl⟩
          · exact ⟨rfl, af, cf, lf, _, _, _, rfl, by rw [rm8, eOd]; exact Mine.other4 (by assumption) (by assumption) hcL (Mine.sign_is (by assumption)), by k_asm, Mine.news_dup (by k_asm) (by k_mem), fun z => by
              by_cases hz : z = Str.ofString "other"
              · simp only [Mine.put, if_pos hz]
              · simp only [Mine.put, if_neg hz]⟩
      · intro ao co lo h12 tk12 rm12 F16 N16
        have tie := Mine.ties (D := T.map Mine.TE.pair) (fun p hp => (Mine.good_pairs gT p hp).1) g1.2 g2.2
        rw [← exa, ← exb, ← eHd, ← eOd, ← egd] at tie
        have eH : (lh ++ lg).map (·.1) = H ++ g := by rw [List.map_append, rm10, rm9]
        have eO : (lo ++ lg).map (·.1) = O ++ g := by rw [List.map_append, rm12, rm9]
        have oH : Mine.Ones (H ++ g) := by rw [eHd, egd]; exact Mine.ones_app (Mine.ones_ahead (Mine.ones_signs one (T.map Mine.TE.pair)) Mine.ones_slash) (Mine.ones_signs two (T.map Mine.TE.pair))
        have oO : Mine.Ones (O ++ g) := by rw [eOd, egd]; exact Mine.ones_app (Mine.ones_other one two (T.map Mine.TE.pair)) (Mine.ones_signs two (T.map Mine.TE.pair))
        have oL : lo.length ≤ 2500 := Mine.len_of rm12 (by rw [eOd]; exact Mine.other_len g1.1 gT)
        have oL5 := Nat.le_trans oL (show 2500 ≤ 5000 by decide)
        obtain ⟨zH, wH⟩ := Mine.z_of eH hL gL
        obtain ⟨zO, wO⟩ := Mine.z_of eO oL gL
        have sameB : decide (lh.map (·.1) = lo.map (·.1)) = (xa == xb) := by rw [tie.same, rm10, rm12]
        k_steps
        refine Mine.go_on ?_
        refine wpAny_If ?_
        k_steps
        have tA : (xa != Txt.join (Str.ofString "") (H ++ g)) = false := by rw [← tie.ta]; exact bne_self_eq_false' _
        have tB : (xb != Txt.join (Str.ofString "") (O ++ g)) = false := by rw [← tie.tb]; exact bne_self_eq_false' _
        refine Mine.go_on ?_
        refine wpAny_If ?_
        k_steps
        refine Mine.go_on ?_
        k_dflt (k_call_by "new" (Mine.lwalk_tells _ _ _ _ _ (lh ++ lg) wH (Mine.ones_len eH oH)))
        case kp => exact Mine.strs_list (c := 0) (by k_asm) (by k_mem)
        intro v13 h13 tk13 F17 N17 nw13 r13
        obtain ⟨ap, tp1, tp2, rfl, rn13, rg13⟩ := r13
        replace N17 := nw13 _ _ rn13 rg13
        clear nw13 rn13 rg13
        rw [eH] at N17
        obtain ⟨p1, ep1⟩ : ∃ p, p = (Mine.walkS (H ++ g)).1 := ⟨_, rfl⟩
        obtain ⟨p2, ep2⟩ : ∃ p, p = (Mine.walkS (H ++ g)).2 := ⟨_, rfl⟩
        rw [← ep1, ← ep2] at N17
        have tna : Mine.normS xa = p1 := by rw [ep1]; exact tie.na
        have tba : Txt.slice xa (some (Txt.rfind xa (Str.ofString "/") + 1)) none = p2 := by rw [ep2]; exact tie.ba
        dsimp only at N17 ⊢
        k_sweep
        k_steps
        rename News _ _ _ (_ :: _) => N18
        replace N18 := Mine.news_tail (Mine.news_tail (Mine.news_tail (Mine.news_tail N18)))
        have bL : xa.length ≤ 1048576 := by rw [exa]; exact Mine.both_len eL1 eL2
        refine Mine.go_on ?_
        refine wpAny_If ?_
        k_steps
        refine Mine.go_on ?_
        k_dflt (k_call_by "use" (Mine.normpath_tells _ _ _ _ xa _ bL))
        case kp => trivial
        intro v14 h14 tk14 F19 N19 st14 r14
        obtain ⟨t14, rfl⟩ := r14
        clear st14
        dsimp only at N19 ⊢
        k_sweep
        k_steps
        refine Mine.go_on ?_
        k_dflt (k_call_by "use" (Mine.basename_tells _ _ _ _ xa _ bL))
        case kp => trivial
        intro v15 h15 tk15 F20 N20 st15 r15
        obtain ⟨t15, rfl⟩ := r15
        clear st15
        dsimp only at N20 ⊢
        k_sweep
        k_steps
        rename News _ _ _ ((_, W.listOf _ _) :: _ :: _ :: _) => N21
        replace N21 := Mine.news_drop2 (Mine.news_drop2 N21)
        k_sweep
        refine Mine.go_on ?_
        k_dflt (k_call_by "new" (Mine.lwalk_tells _ _ _ _ _ (lo ++ lg) wO (Mine.ones_len eO oO)))
        case kp => exact Mine.strs_list (c := 0) (by k_asm) (by k_mem)
        intro v16 h16 tk16 F22 N22 nw16 r16
        obtain ⟨aq, tq1, tq2, rfl, rn16, rg16⟩ := r16
        replace N22 := nw16 _ _ rn16 rg16
        clear nw16 rn16 rg16
        rw [eO] at N22
        obtain ⟨q1, eq1⟩ : ∃ p, p = (Mine.walkS (O ++ g)).1 := ⟨_, rfl⟩
        obtain ⟨q2, eq2⟩ : ∃ p, p = (Mine.walkS (O ++ g)).2 := ⟨_, rfl⟩
        rw [← eq1, ← eq2] at N22
        have tnb : Mine.normS xb = q1 := by rw [eq1]; exact tie.nb
        have tbb : Txt.slice xb (some (Txt.rfind xb (Str.ofString "/") + 1)) none = q2 := by rw [eq2]; exact tie.bb
        dsimp only at N22 ⊢
        k_sweep
        k_steps
        rename News _ _ _ (_ :: _) => N23
        replace N23 := Mine.news_tail (Mine.news_tail (Mine.news_tail (Mine.news_tail (Mine.news_tail (Mine.news_tail N23)))))
        have cL : xb.length ≤ 1048576 := by rw [exb]; exact Mine.behind_len jL jL1 jL2 gT
        refine Mine.go_on ?_
        k_dflt (k_call_by "use" (Mine.normpath_tells _ _ _ _ xb _ cL))
        case kp => trivial
        intro v17 h17 tk17 F24 N24 st17 r17
        obtain ⟨t17, rfl⟩ := r17
        clear st17
        dsimp only at N24 ⊢
        k_sweep
        k_steps
        refine Mine.go_on ?_
        k_dflt (k_call_by "use" (Mine.basename_tells _ _ _ _ xb _ cL))
        case kp => trivial
        intro v18 h18 tk18 F25 N25 st18 r18
        obtain ⟨t18, rfl⟩ := r18
        clear st18
        dsimp only at N25 ⊢
        k_sweep
        k_steps
        rename News _ _ _ (_ :: _) => N26
        rename Fr _ _ _ _ => F26
        refine ⟨_, od, Mine.kvsOf T, ep, _, rfl, rfl, F26, N26, lo', by k_mem, ka, ?_, ?_⟩
        · show (T.map _).length ≤ _
          rw [List.length_map, sizeLine_eq]; lia
        rintro s₃ ⟨g3, rfl⟩
        refine Mine.rest_dict (by k_mem) ?_ ?_
        · intro q t I C D2 oI oC ys2 acc2 m₂ h tk E' hq hC hx F3 N3 ne
          obtain ⟨n1, n2, n3⟩ := ne
          simp only [List.cons_append, List.nil_append] at N3
          have tq : Mine.TurnQ q T := hq
          have j1 := Heap.lt_size (N3 _ (.head _)).1
          have j2 := Heap.lt_size (N3 _ (.tail _ (.head _))).1
          have j3 := Heap.lt_size (N3 _ (.tail _ (.tail _ (.head _)))).1
          k_steps
          refine ⟨_, _, _, _, _, rfl, rfl, by k_asm, Mine.turn_news (by k_asm), Nat.ne_of_gt j1, Nat.ne_of_gt j2, Nat.ne_of_gt j3⟩
        · intro ys2 acc2 T2 hE2 hp2 D2 h27 tk27 F27 N27 o27
          simp only [List.cons_append, List.nil_append] at N27
          k_steps)
end
