import PyProof.Rows.All
import Wide.All
import OpenK.AllK
import Wide.FinOn
import PySem.Challenge.RW_qw0042_01
open PySem PySem.W PyProof.Rows PySem.Spec PySem.Calls
set_option Elab.async false
set_option maxRecDepth 100000
set_option maxHeartbeats 8000000
namespace Mine
/-! the head. The written part kp is the library's own (pre.heap_1), laid down anew with a binder that keeps a twin of it from being made: nothing uses the twin, and it would fill 5 MB of the compiled file -/
local macro_rules
  | `(tactic| o_head (kmHook $k $a $f $t)) => do
    match t with
    | `($_ :: $_) => `(tactic| assumption)
    | _ => Lean.Macro.throwUnsupported
theorem pre (h : PySem.Challenge.rw_qw0042_01.row.Holds) : PySem.Challenge.rw_qw0042_01.row.Holds := by
  k_head
theorem same_a : Str.ofString "a" = Str.ofString "a" := rfl
def ParamsOf (s : Str) (_ : s = s) : Type := Params
noncomputable def kp : Params → Frag := by
  refine' (?f : (k : Params → Frag) → k = k → Params → Frag) _ ?w
  case w =>
    have w : pre.heap_1 = pre.heap_1 := rfl
    delta pre.heap_1 at w
    exact w
  case f => exact fun k _ => fun (p : ParamsOf (Str.ofString "a") same_a) => k p
noncomputable def kpAt : List Addr := [2, 3, 15, 17, 18, 20, 21, 22, 25, 30, 31, 32, 34, 35, 37, 38, 39, 41, 42, 44, 45, 46, 47, 49, 50, 52, 53, 54, 55, 57, 58, 60, 61, 62, 64, 65, 67, 68, 69, 71, 72, 74, 75, 76, 77, 79, 80, 82, 83, 84, 86, 87, 89, 90, 91, 92, 94, 95, 97, 98, 99, 100, 101, 102, 103, 106, 107, 108, 110, 111, 113, 114, 115, 117, 118, 120, 121, 122, 129, 131, 132, 134, 135, 136, 137, 138, 141, 148, 150, 151, 153, 154, 155, 157, 158, 160, 161, 162, 164, 165, 167, 168, 169, 170, 171, 174, 176, 177, 179, 180, 181, 183, 184, 186, 187, 188, 190, 191, 193, 194, 195, 197, 198, 200, 201, 202, 204, 205, 207, 208, 209, 211, 212, 214, 215, 216, 218, 219, 221, 222, 223, 225, 226, 228, 229, 230, 233, 234]
local macro_rules | `(tactic| k_head) => `(tactic| o_head (kmHook kp kpAt (fun _ => by kernel_rfl) [70, 224]))
open_top hd for PySem.Challenge.rw_qw0042_01
local macro_rules | `(tactic| walk_at $s:str) => `(tactic| k_extra $s)

theorem fresh_issub10 : True := by
  w_top off
  trivial
theorem kind_isn : builtinKind "issubclass.nested" = none := by decide +kernel
theorem plain_isn : plainId "issubclass.nested" = true := by decide +kernel
theorem args_isn (a b c : Value) : argsOk "issubclass.nested" ⟨[a, b, c], []⟩ := by unfold argsOk; kernel_rfl
theorem typeOf_str_t : typeOf (.type "str") = pure (.type "type") := by first | rfl | kernel_rfl
theorem sub_str : isSubtype (.type "str") (.type "str") = pure true := by rw [isSubtype_type]; kernel_rfl
theorem sub_type_str : isSubtype (.type "type") (.type "type") = pure true := by rw [isSubtype_type]; kernel_rfl

theorem isn_str {prog : Program} {w : World} {A : Around} {E : Value → Shared → Prop} {s : Shared} {dep : Int} {tk : Tok} {Q : Fin → Shared → Prop}
    (hq : Q (.done (.ret (.bool true))) s) :
    wpAny (model prog w) A (Builtin.«issubclass.nested» ⟨[.type "str", .type "str", .int dep tk], []⟩) Q E s := by
  have f1 := typeOf_str_t
  have f2 := sub_str
  have f3 := sub_type_str
  repeat (any_goals (first | assumption | wp_step))

theorem isn_meets {d : Int} {t : Tok} : Meets (Builtin.«issubclass.nested» ⟨[.type "str", .type "str", .int d t], []⟩) (fun _ R s => R (.ok (.ret (.bool true))) s) :=
  fun _ _ _ _ _ hs => isn_str hs

theorem isn_tup {prog : Program} {w : World} {A : Around} {E : Value → Shared → Prop} {s : Shared} {tp : Addr} {tk : Tok} {y : Value} {Q : Fin → Shared → Prop}
    (htp : IsTup s.heap tp #[.type "str", y])
    (hq : ∀ tk', Q (.done (.ret (.bool true))) { s with toks := tk' }) :
    wpAny (model prog w) A (Builtin.«issubclass.nested» ⟨[.type "str", .ref tp, .int 0 tk], []⟩) Q E s := by
  obtain ⟨h, g, d, t, os⟩ := s
  obtain ⟨⟨oc, od, oda, osl⟩, ho, hc, n, hd⟩ := htp
  dsimp only at hc hd
  subst hc hd
  have hT2 : (⟨h, g, d, t, os⟩ : Shared).TypeIs (.ref tp) "tuple" := ⟨_, ho, rfl⟩
  have f1 := F.isi_sub_tuple
  repeat (any_goals (first | assumption | exact hq _ | ((with_reducible show wpAny _ _ (call (Value.builtin "issubclass.nested") _) _ _ _); show wpAny _ _ (call (Value.builtin "issubclass.nested") [Value.type "str", Value.type "str", Value.int 1 0]) _ _ _; refine call_function_meets kind_isn plain_isn F.entry_issubclass_nested (args_isn _ _ _) isn_meets ?_) | wp_step))

theorem issub_meets {tp : Addr} {y : Value} : Meets (Builtin.«issubclass» ⟨[.type "str", .ref tp], []⟩) (fun _ R s => IsTup s.heap tp #[.type "str", y] ∧ ∀ tk', R (.ok (.ret (.bool true))) { s with toks := tk' }) :=
  fun _ _ _ _ _ hs => issubclass_outer (isn_tup hs.1 hs.2)

theorem issub_str {prog : Program} {w : World} {A : Around} {E : Value → Shared → Prop} {s : Shared} {tp : Addr} {y : Value} {Q : Value → Shared → Prop}
    (htp : IsTup s.heap tp #[.type "str", y]) (hq : ∀ tk', Q (.bool true) { s with toks := tk' }) :
    wpAny (model prog w) A (call (.builtin "issubclass") [.type "str", .ref tp]) Q E s :=
  call_issubclass issub_meets ⟨htp, hq⟩

theorem lines_issub11 : True := by
  k_with "call builtin:issubclass" => (k_here; (with_reducible show wpAny _ _ (call (Value.builtin "issubclass") [Value.type "str", Value.ref _]) _ _ _); k_dflt (refine' issub_str (News.isTup ?kN'w ?kb'w) ?_; (case kN'w => k_asm); (case kb'w => k_mem); k_whole); intro _)
  trivial

theorem fresh_use12 : True := by
  w_top off
  trivial
/-! contracts of the text's defs: what a call keeps is all that stood, but for a written ledger -/
def KeepsBut (as : List Addr) (h h' : Heap) : Prop := ∀ b o, b ∉ as → h.get? b = some o → h'.get? b = some o
abbrev Kept (h h' : Heap) : Prop := ∀ b o, h.get? b = some o → h'.get? b = some o

section
variable {prog : Program} {w : World} {A₀ A : Around} {s : Shared} {base h₀ : Heap} {outer : List Env} {L : Addr} {m mg mb : Str → Option Value} {env : Env} {news : List (Addr × Obj)} {K : Frag} {p : Program} {loose : List Str} {mean : ExcName → Option Value}
  {R : Result → Shared → Prop} {name qual : Str} {params : Arguments} {body : List Stmt} {scope : Scope} {cl : List (Str × Addr)} {dV kV doc pm cdv ct oc : Value} {an od : Option Addr} {osl : Array (Option Value)} {f : Addr} {args : Args} {binds : List (Str × Value)}

abbrev BackL (g : Heap) (R : Result → Shared → Prop) : Result → Shared → Prop := fun r s' => Kept g s'.heap → R r s'

theorem frL {E : Value → Shared → Prop} (B : Below A₀ base outer h₀) (F : Fr h₀ L s.heap m) (N : News h₀ L s.heap news) (hlim : h₀.NoLimit) (hA : A.frames = some (env :: outer)) (hf : env.frame = some L) (hke : env.scope.kind = .function)
    (hloc : ∀ y ∈ binds, scope.names.lookup y.1 = some .local)
    (h : ∀ g L' h₁, KeepsBut (news.map (·.1)) s.heap g → Fr g L' h₁ (fun y => binds.reverse.lookup y) → News g L' h₁ news → Below A base (env :: outer) g → h₀.StaysIn g → (∀ p ∈ news, p.1 < L') →
      wpAny (model prog w) (A.deeper (envX qual scope L' f cdv cl)) (execs body (envX qual scope L' f cdv cl))
        (fun fl s' => LeaveK h₀ L m g (BackL g R) (match fl with | .ret v => v | _ => .none) s')
        (fun e s' => wpAny (model prog w) (A.deeper (envX qual scope L' f cdv cl)) (leaving (envX qual scope L' f cdv cl) e) (fun _ s'' => R (.error e) s'') (fun e' s'' => R (.error e') s'') s')
        { s with heap := h₁, toks := s.toks + binds.length })
    (hcell : ∀ x ∈ scope.names, x.2 ≠ .cell) (hk : scope.kind = .function) :
    wpAny (model prog w) A.in1 (newFunctionEnv scope mainGlobals cl binds (qual ++ ".<locals>.") (some f) cdv none builtinsNs) (fun env' s₂ => s₂.heap.NoLimit ∧ codeAny (model prog w) A (.func body env') R s₂) E s := by
  obtain ⟨FG, BG, st, lv⟩ := groundX (R := BackL (hideAll s.heap (news.map (·.1))) R) B F N hA hf hke
  refine wpAny_newFunctionEnv hcell hloc (fun h₁ hns hsb => ⟨(hlim.keeps F.keep).fresh _ hsb, codeAny_func ?_⟩) hk
  have hk₁ : Kept s.heap h₁ := fun b o e => hsb.extBut b o (Nat.ne_of_lt (Heap.lt_size e)) (Heap.get?_push_of_some _ e)
  show wpAny (model prog w) (A.deeper (envX qual scope s.heap.objs.size f cdv cl)) (execs body (envX qual scope s.heap.objs.size f cdv cl)) _ _ _
  refine wpAny_mono (h _ s.heap.objs.size h₁ (fun b o hb e => hideAll_get _ e hb) ⟨hns, fun b o e => hk₁ b o (of_hideAll _ e), Nat.le_of_eq (hideAll_size _ _)⟩
    (fun p hp => ⟨hk₁ _ _ (N p hp).1, Nat.ne_of_lt (Heap.lt_size (N p hp).1), hideAll_none _ (List.mem_map_of_mem hp)⟩) BG st (fun p hp => Heap.lt_size (N p hp).1)) (fun fl s' hl => lv _ _ hl ?_) fun _ _ y => y
  obtain ⟨_, _, _, F', _, _⟩ := hl
  exact F'.keep

theorem enterC (B : Below A₀ base outer h₀) (F : Fr h₀ L s.heap m) (X₀ : K.In h₀) (N : News h₀ L s.heap news) (T : Top p loose mean mg mb h₀) (hA : A.frames = some (env :: outer)) (hf : env.frame = some L) (hke : env.scope.kind = .function)
    (ho : K.lookup f = some ⟨oc, od, .func (fnX name qual params body scope cl dV kV doc pm an cdv ct), osl⟩) (hcd : codeIn K cdv qual = true) (hroom : A.depth < recursionLimit)
    (hbind : BindsTo s (fnX name qual params body scope cl dV kV doc pm an cdv ct) args binds) (hloc : ∀ y ∈ binds, scope.names.lookup y.1 = some .local)
    (h : ∀ g L' h₁, KeepsBut (news.map (·.1)) s.heap g → Fr g L' h₁ (fun y => binds.reverse.lookup y) → News g L' h₁ news → Below A base (env :: outer) g → K.In g → Top p loose mean mg mb g → (∀ p ∈ news, p.1 < L') →
      wpAny (model prog w) (A.deeper (envX qual scope L' f cdv cl)) (execs body (envX qual scope L' f cdv cl))
        (fun fl s' => LeaveK h₀ L m g (BackL g R) (match fl with | .ret v => v | _ => .none) s')
        (fun e s' => wpAny (model prog w) (A.deeper (envX qual scope L' f cdv cl)) (leaving (envX qual scope L' f cdv cl) e) (fun _ s'' => R (.error e) s'') (fun e' s'' => R (.error e') s'') s')
        { s with heap := h₁, toks := s.toks + binds.length })
    (hco : scope.isCoroutine = false) (hgen : scope.isGenerator = false) (hk : scope.kind = .function) (hcell : ∀ x ∈ scope.names, x.2 ≠ .cell) : codeAny (model prog w) A (.call (.ref f) args) R s := by
  refine codeAny_call_function (fd := fnX name qual params body scope cl dV kV doc pm an cdv ct) (body := body) hroom ((X₀.keeps F.keep) _ _ ho) rfl hco hgen rfl (codeRec_of (X₀.keeps F.keep) hcd) (hbind _ _ _ _ ?_)
  exact frL B F N T.nolimit hA hf hke hloc (fun g L' h₁ kb F' N' B' st l => h g L' h₁ kb F' N' B' (X₀.keeps st) (T.keeps st) l) hcell hk

theorem enterL (B : Below A₀ base outer h₀) (F : Fr h₀ L s.heap m) (X₀ : K.In h₀) (N : News h₀ L s.heap news) (T : Top p loose mean mg mb h₀) (hA : A.frames = some (env :: outer)) (hf : env.frame = some L) (hke : env.scope.kind = .function)
    (ho : K.lookup f = some ⟨oc, od, .func (fnOf name qual params body scope dV kV doc pm an cdv ct), osl⟩) (hcd : codeIn K cdv qual = true) (hroom : A.depth < recursionLimit)
    (hbind : BindsTo s (fnOf name qual params body scope dV kV doc pm an cdv ct) args binds) (hloc : ∀ y ∈ binds, scope.names.lookup y.1 = some .local)
    (h : ∀ g L' h₁, KeepsBut (news.map (·.1)) s.heap g → Fr g L' h₁ (fun y => binds.reverse.lookup y) → News g L' h₁ news → Below A base (env :: outer) g → K.In g → Top p loose mean mg mb g → (∀ p ∈ news, p.1 < L') →
      wpAny (model prog w) (A.deeper (envOf qual scope L' f cdv)) (execs body (envOf qual scope L' f cdv))
        (fun fl s' => LeaveK h₀ L m g (BackL g R) (match fl with | .ret v => v | _ => .none) s')
        (fun e s' => wpAny (model prog w) (A.deeper (envOf qual scope L' f cdv)) (leaving (envOf qual scope L' f cdv) e) (fun _ s'' => R (.error e) s'') (fun e' s'' => R (.error e') s'') s')
        { s with heap := h₁, toks := s.toks + binds.length })
    (hco : scope.isCoroutine = false) (hgen : scope.isGenerator = false) (hk : scope.kind = .function) (hcell : ∀ x ∈ scope.names, x.2 ≠ .cell) : codeAny (model prog w) A (.call (.ref f) args) R s :=
  enterC (cl := []) B F X₀ N T hA hf hke ho hcd hroom hbind hloc h hco hgen hk hcell
end

abbrev Con (w : World) (k : Nat) (f : Addr) (led : List (Addr × Obj)) (vs : List Value) (Post : Heap → Value → List (Addr × Obj) → Prop) : Prop :=
  ∀ (p : Program) (loose : List Str) (mean : ExcName → Option Value) (mg mb : Str → Option Value) (dp un : Nat) (gd : Option (List Code)) (cn : Str) (cs : Scope) (a : Addr) (ccd : Value) (cl : List (Str × Addr)) (outer : List Env) (A₀ : Around) (base h₀ : Heap) (L : Addr) (m : Str → Option Value) (s : Shared) (Q E : Value → Shared → Prop),
    Below A₀ base outer h₀ → Fr h₀ L s.heap m → Frag.In (Mine.kp w.params) h₀ → News h₀ L s.heap led → Top p loose mean mg mb h₀ → cs.kind = .function → dp + k < recursionLimit → un + 8 * k < cLine →
    (∀ r led' h' tk', KeepsBut (led.map (·.1)) s.heap h' → Fr h₀ L h' m → News h₀ L h' led' → Post s.heap r led' → Q r { s with heap := h', toks := tk' }) →
      wpAny (model PySem.Challenge.rw_qw0042_01.row.prog w) (ktrTop dp un gd cn cs L a ccd cl outer) (call (.ref f) vs) Q E s

abbrev ConP (w : World) (k : Nat) (f : Addr) (vs : List Value) (R : Tok → Value) : Prop := Con w k f [] vs (fun _ r _ => ∃ t, r = R t)

theorem conP_use {w : World} {k : Nat} {f : Addr} {news : List (Addr × Obj)} {vs : List Value} {R : Tok → Value} (C : ConP w k f vs R)
    {p : Program} {loose : List Str} {mean : ExcName → Option Value} {mg mb : Str → Option Value} {dp un : Nat} {gd : Option (List Code)} {cn : Str} {cs : Scope} {a : Addr} {ccd : Value} {cl : List (Str × Addr)} {outer : List Env} {A₀ : Around} {base h₀ : Heap} {L : Addr} {m : Str → Option Value} {s : Shared} {Q E : Value → Shared → Prop}
    (B : Below A₀ base outer h₀) (F : Fr h₀ L s.heap m) (X : Frag.In (Mine.kp w.params) h₀) (N : News h₀ L s.heap news) (T : Top p loose mean mg mb h₀) (hk : cs.kind = .function)
    (hd : dp + k < recursionLimit) (hu : un + 8 * k < cLine) (ret : ∀ (t : Tok) (h' : Heap) (tk' : Nat), Fr h₀ L h' m → News h₀ L h' news → Q (R t) { s with heap := h', toks := tk' }) :
    wpAny (model PySem.Challenge.rw_qw0042_01.row.prog w) (ktrTop dp un gd cn cs L a ccd cl outer) (call (.ref f) vs) Q E s :=
  C p loose mean mg mb dp un gd cn cs a ccd cl outer A₀ base h₀ L m s Q E B F X News.nil T hk hd hu fun r led' h' tk' kb F' _ ⟨t, e⟩ => by
    subst e
    exact ret t h' tk' F' (N.grown fun b o e => kb b o (by simp) e)
theorem conP_ret {m : Str → Option Value} {h₀ h' : Heap} {L : Addr} {led' : List (Addr × Obj)} {s : Shared} {Q : Value → Shared → Prop} {R : Tok → Value} {g : Heap} {v : Value} {tk' : Nat}
    (hret : ∀ r led' h' tk', KeepsBut (([] : List (Addr × Obj)).map (·.1)) s.heap h' → Fr h₀ L h' m → News h₀ L h' led' → (∃ t, r = R t) → Q r { s with heap := h', toks := tk' })
    (kb : KeepsBut (([] : List (Addr × Obj)).map (·.1)) s.heap g) (F : Fr h₀ L h' m) (N : News h₀ L h' led') (e : ∃ t, v = R t) (kg : Kept g h') : Q v { s with heap := h', toks := tk' } :=
  hret v led' h' tk' (fun b o hb e => kg b o (kb b o hb e)) F N e
theorem fresh_of {as : List Addr} {h g : Heap} {D : Addr} (kb : KeepsBut as h g) (hb : D ∉ as) (hn : g.get? D = none) : h.get? D = none := by
  cases e : h.get? D with
  | none => rfl
  | some o => exact absurd (hn.symm.trans (kb D o hb e)) (by simp)
theorem KeepsBut.then {as : List Addr} {h g h' : Heap} (kb : KeepsBut as h g) (kg : Kept g h') : KeepsBut as h h' := fun b o hb e => kg b o (kb b o hb e)
theorem ne_of_fresh {h : Heap} {D : Addr} {h₀ : Heap} {L : Addr} {news : List (Addr × Obj)} (N : News h₀ L h news) (hD : h.get? D = none) : ∀ p ∈ news, p.1 ≠ D := fun p hp e => by
  have := (N p hp).1
  rw [e, hD] at this
  cases this
theorem con_use {w : World} {k : Nat} {f : Addr} {news : List (Addr × Obj)} {vs : List Value} {Post : Heap → Value → List (Addr × Obj) → Prop} (C : Con w k f [] vs Post)
    {p : Program} {loose : List Str} {mean : ExcName → Option Value} {mg mb : Str → Option Value} {dp un : Nat} {gd : Option (List Code)} {cn : Str} {cs : Scope} {a : Addr} {ccd : Value} {cl : List (Str × Addr)} {outer : List Env} {A₀ : Around} {base h₀ : Heap} {L : Addr} {m : Str → Option Value} {s : Shared} {Q E : Value → Shared → Prop}
    (B : Below A₀ base outer h₀) (F : Fr h₀ L s.heap m) (X : Frag.In (Mine.kp w.params) h₀) (N : News h₀ L s.heap news) (T : Top p loose mean mg mb h₀) (hk : cs.kind = .function)
    (hd : dp + k < recursionLimit) (hu : un + 8 * k < cLine) (ret : ∀ (r : Value) (led' : List (Addr × Obj)) (h' : Heap) (tk' : Nat), Kept s.heap h' → Fr h₀ L h' m → News h₀ L h' led' → News h₀ L h' news → Post s.heap r led' → Q r { s with heap := h', toks := tk' }) :
    wpAny (model PySem.Challenge.rw_qw0042_01.row.prog w) (ktrTop dp un gd cn cs L a ccd cl outer) (call (.ref f) vs) Q E s :=
  C p loose mean mg mb dp un gd cn cs a ccd cl outer A₀ base h₀ L m s Q E B F X News.nil T hk hd hu fun r led' h' tk' kb F' N' hP =>
    ret r led' h' tk' (fun b o e => kb b o (by simp) e) F' N' (N.grown fun b o e => kb b o (by simp) e) hP
theorem news_cons {h₀ h : Heap} {L D : Addr} {o : Obj} {led news : List (Addr × Obj)} (N' : News h₀ L h led) (hm : (D, o) ∈ led) (N : News h₀ L h news) : News h₀ L h ((D, o) :: news) := fun p hp => by
  rcases List.mem_cons.mp hp with rfl | hp
  · exact N' _ hm
  · exact N p hp

theorem fresh_rest14 : True := by
  w_top off
  trivial
theorem wp_peek1 {α : Type} {K : Frag} {M : Model} {A : Around} {E : Value → Shared → Prop} {Q : α → Shared → Prop} {s : Shared} {o : Obj} {r : Addr → α}
    (X : K.In s.heap) (q : Q (r s.heap.objs.size) { s with heap := s.heap.push o }) :
    ∀ (t : Sem α) (g : Addr → Option α), peek1 K ⟨M.prog, M.w.params⟩ t = some (o, g) → (∀ D, g D = some (r D)) → wpAny M A t Q E s := by
  intro t
  induction t with
  | rule _ k ih => intro g e hg Γ p hΓ; exact ih () g e hg Γ p hΓ
  | point _ k ih => intro g e hg Γ p hΓ; exact ih () g e hg Γ p hΓ
  | ask k ih => intro g e hg Γ p hΓ; exact ih _ g e hg Γ p hΓ
  | load a _ k ih =>
    intro g e hg Γ p hΓ
    simp only [peek1] at e
    split at e
    · rename_i ob ho; exact ⟨ob, X _ _ ho, ih ob g e hg Γ p hΓ⟩
    · cases e
  | alloc ob k _ =>
    intro g e hg
    obtain ⟨e1, e2⟩ := Prod.mk.inj (Option.some.inj (show some (ob, fun D => peek K ⟨M.prog, M.w.params⟩ (k D)) = some (o, g) from e))
    subst e1 e2
    exact wpAny_bind (m := PySem.alloc ob) (f := k) (wpAny_alloc ((Looks.of_peek (M := M) (h := s.heap.push ob) (X.keeps fun b x hb => Heap.get?_push_of_some _ hb) (hg s.heap.objs.size)).here (s := { s with heap := s.heap.push ob }) q))
  | _ => intro g e; cases e

theorem enterR {prog : Program} {w : World} {A₀ A : Around} {s : Shared} {base h₀ : Heap} {outer : List Env} {L : Addr} {m mg mb : Str → Option Value} {env : Env} {news : List (Addr × Obj)} {K : Frag} {p : Program} {loose : List Str} {mean : ExcName → Option Value}
    {R : Result → Shared → Prop} {name qual : Str} {params : Arguments} {body : List Stmt} {scope : Scope} {dV kV doc pm cdv ct oc : Value} {an od : Option Addr} {osl : Array (Option Value)} {f : Addr} {args : Args} {vs : List Value} {g₁ : Addr → Option (List (Str × Value))} {binds : Addr → List (Str × Value)}
    (B : Below A₀ base outer h₀) (F : Fr h₀ L s.heap m) (X₀ : K.In h₀) (N : News h₀ L s.heap news) (T : Top p loose mean mg mb h₀) (hA : A.frames = some (env :: outer)) (hf : env.frame = some L) (hke : env.scope.kind = .function)
    (ho : K.lookup f = some ⟨oc, od, .func (fnOf name qual params body scope dV kV doc pm an cdv ct), osl⟩) (hcd : codeIn K cdv qual = true) (hroom : A.depth < recursionLimit)
    (hv : args.pos.drop (params.posonlyargs.length + params.args.length) = vs)
    (hp : peek1 K ⟨prog, w.params⟩ (bindArgs (fnOf name qual params body scope dV kV doc pm an cdv ct) args) = some (({ cls := .type "tuple", data := .seq vs.toArray } : Obj), g₁))
    (hg : ∀ D, g₁ D = some (binds D)) (hloc : ∀ D, ∀ y ∈ binds D, scope.names.lookup y.1 = some .local)
    (h : ∀ D g L' h₁, (∀ p ∈ news, p.1 < D) → KeepsBut (news.map (·.1)) s.heap g → Fr g L' h₁ (fun y => (binds D).reverse.lookup y) → News g L' h₁ ((D, ({ cls := .type "tuple", data := .seq vs.toArray } : Obj)) :: news) → Below A base (env :: outer) g → K.In g → Top p loose mean mg mb g →
      wpAny (model prog w) (A.deeper (envOf qual scope L' f cdv)) (execs body (envOf qual scope L' f cdv))
        (fun fl s' => LeaveK h₀ L m g (BackL g R) (match fl with | .ret v => v | _ => .none) s')
        (fun e s' => wpAny (model prog w) (A.deeper (envOf qual scope L' f cdv)) (leaving (envOf qual scope L' f cdv) e) (fun _ s'' => R (.error e) s'') (fun e' s'' => R (.error e') s'') s')
        { s with heap := h₁, toks := s.toks + (binds D).length })
    (hco : scope.isCoroutine = false) (hgen : scope.isGenerator = false) (hk : scope.kind = .function) (hcell : ∀ x ∈ scope.names, x.2 ≠ .cell) : codeAny (model prog w) A (.call (.ref f) args) R s := by
  have _ := hv
  refine codeAny_call_function (fd := fnOf name qual params body scope dV kV doc pm an cdv ct) (body := body) hroom ((X₀.keeps F.keep) _ _ ho) rfl hco hgen rfl (codeRec_of (X₀.keeps F.keep) hcd) ?_
  refine wp_peek1 (X₀.keeps F.keep) (r := binds) ?_ _ g₁ hp hg
  refine frL (cl := []) (s := { s with heap := s.heap.push _ }) B (F.push _) (News.push F N _ rfl) T.nolimit hA hf hke (hloc _) (fun g L' h₁ kb F' N' B' st _ => h _ g L' h₁ (fun p hp => Heap.lt_size (N p hp).1) (fun b o hb e => kb b o ?_ (Heap.get?_push_of_some _ e)) F' N' B' (X₀.keeps st) (T.keeps st)) hcell hk
  intro q
  rcases List.mem_cons.mp q with q | q
  · exact absurd (Heap.lt_size e) (q ▸ Nat.lt_irrefl _)
  · exact hb q

theorem fresh_fspath20 : True := by
  w_top off
  trivial
theorem c_fspath (w : World) (x : Str) (t : Tok) : ConP w 2 187 [.str x t] (fun t => .str x t) := by
  unfold ConP Con
  k_fill
  intros
  rename_i hret
  (refine wpAny_call ?_; k_dflt (refine' enterL (binds := [(Str.ofString "path", .str x t)]) ?k1 ?k2 ?k3 ?k4 ?k5 ?kA ?kF ?kK ?k6 ?k7 ?k8 ?k9 ?kB ?_ ?c2 ?c3 ?c4 ?c5; (case kA => exact rfl); (case kF => exact rfl); (case kK => first | assumption | exact rfl); (case k1 => k_asm); (case k2 => k_asm); (case k3 => k_asm); (case k4 => assumption); (case k5 => k_asm); (case k6 => k_is); (case k7 => k_is); (case k8 => ktr_room); (case k9 => first | exact BindsTo.of_eq rfl | exact binds_K (by k_in) rfl (by k_is) rfl rfl rfl); (case kB => exact locs rfl); (case c5 => decide); (case c2 => exact rfl); (case c3 => exact rfl); (case c4 => exact rfl); k_whole; intro g' L' h' kb' F' N' B' X' T' l1; (try k_lt l1); (try dsimp only); (try k_lift B'); (try k_fold)))
  k_steps
  all_goals (dsimp only; exact conP_ret hret (by assumption) (by assumption) (by assumption) ⟨_, rfl⟩ (by assumption))

theorem lines_fspath21 : True := by
  k_with "call ref" => (k_here; (with_reducible show wpAny _ _ (call (Value.ref 187) [Value.str _ _]) _ _ _); k_dflt (refine' conP_use (c_fspath _ _ _) ?k1'w ?k2'w ?k3'w ?k4'w ?k5'w ?kK'w ?kd'w ?ku'w ?_; (case k1'w => k_asm); (case k2'w => k_asm); (case k3'w => k_asm); (case k4'w => k_asm); (case k5'w => k_asm); (case kK'w => first | exact rfl | assumption); (case kd'w => ktr_room); (case ku'w => ktr_units)); intro t9'w h9'w tk9'w F9'w N9'w; (try dsimp only); (try k_fold))
  trivial

theorem fresh_getsep22 : True := by
  w_top off
  trivial
theorem c_getsep (w : World) (x : Str) (t : Tok) : ConP w 2 201 [.str x t] (fun t => .str (Str.ofString "/") t) := by
  unfold ConP Con
  k_fill
  intros
  rename_i hret
  (refine wpAny_call ?_; k_dflt (refine' enterL (binds := [(Str.ofString "path", .str x t)]) ?k1 ?k2 ?k3 ?k4 ?k5 ?kA ?kF ?kK ?k6 ?k7 ?k8 ?k9 ?kB ?_ ?c2 ?c3 ?c4 ?c5; (case kA => exact rfl); (case kF => exact rfl); (case kK => first | assumption | exact rfl); (case k1 => k_asm); (case k2 => k_asm); (case k3 => k_asm); (case k4 => assumption); (case k5 => k_asm); (case k6 => k_is); (case k7 => k_is); (case k8 => ktr_room); (case k9 => first | exact BindsTo.of_eq rfl | exact binds_K (by k_in) rfl (by k_is) rfl rfl rfl); (case kB => exact locs rfl); (case c5 => decide); (case c2 => exact rfl); (case c3 => exact rfl); (case c4 => exact rfl); k_whole; intro g' L' h' kb' F' N' B' X' T' l1; (try k_lt l1); (try dsimp only); (try k_lift B'); (try k_fold)))
  k_steps
  all_goals (dsimp only; exact conP_ret hret (by assumption) (by assumption) (by assumption) ⟨_, rfl⟩ (by assumption))

theorem lines_getsep23 : True := by
  k_with "call ref" => (k_here; (with_reducible show wpAny _ _ (call (Value.ref 201) [Value.str _ _]) _ _ _); k_dflt (refine' conP_use (c_getsep _ _ _) ?k1'w ?k2'w ?k3'w ?k4'w ?k5'w ?kK'w ?kd'w ?ku'w ?_; (case k1'w => k_asm); (case k2'w => k_asm); (case k3'w => k_asm); (case k4'w => k_asm); (case k5'w => k_asm); (case kK'w => first | exact rfl | assumption); (case kd'w => ktr_room); (case ku'w => ktr_units)); intro t9'w h9'w tk9'w F9'w N9'w; (try dsimp only); (try k_fold))
  trivial

theorem fresh_join24 : True := by
  w_top off
  trivial
theorem c_join (w : World) (x y : Str) (t u : Tok) (hx0 : 0 < x.length) (hx1 : x.length ≤ 1000) (hy1 : y.length ≤ 1000) (hs : Txt.startswith y (Str.ofString "/") = false) (he : Txt.endswith x (Str.ofString "/") = false) : ConP w 8 208 [.str x t, .str y u] (fun t => .str (x ++ (Str.ofString "/" ++ y)) t) := by
  unfold ConP Con
  k_fill
  intros
  rename_i hret
  (refine wpAny_call ?_; k_dflt (refine' enterR (binds := fun D => [(Str.ofString "a", .str x t), (Str.ofString "p", .ref D)]) ?k1 ?k2 ?k3 ?k4 ?k5 ?kA ?kF ?kK ?k6 ?k7 ?k8 ?kV ?kP ?kG ?kB ?_ ?c2 ?c3 ?c4 ?c5; (case kA => exact rfl); (case kF => exact rfl); (case kK => first | assumption | exact rfl); (case k1 => k_asm); (case k2 => k_asm); (case k3 => k_asm); (case k4 => assumption); (case k5 => k_asm); (case k6 => k_is); (case k7 => k_is); (case k8 => ktr_room); (case kV => kl_lit); (case kP => exact rfl); (case kG => exact fun _ => rfl); (case kB => exact fun _ => locs rfl); (case c5 => decide); (case c2 => exact rfl); (case c3 => exact rfl); (case c4 => exact rfl); k_whole; intro D' g' L' h' l1 kb' F' N' B' X' T'; (try k_lt l1); (try dsimp only); (try k_lift B'); (try k_fold)))
  k_steps
  all_goals first | (exfalso; omega) | (dsimp only; exact conP_ret hret (by assumption) (by assumption) (by assumption) ⟨_, rfl⟩ (by assumption))

theorem lines_join25 : True := by
  k_with "call ref" => (k_here; (with_reducible show wpAny _ _ (call (Value.ref 208) [Value.str _ _, Value.str _ _]) _ _ _); k_dflt (refine' conP_use (c_join _ _ _ _ _ ?p1'w ?p2'w ?p3'w ?p4'w ?p5'w) ?k1'w ?k2'w ?k3'w ?k4'w ?k5'w ?kK'w ?kd'w ?ku'w ?_; (case p1'w => assumption); (case p2'w => assumption); (case p3'w => assumption); (case p4'w => assumption); (case p5'w => assumption); (case k1'w => k_asm); (case k2'w => k_asm); (case k3'w => k_asm); (case k4'w => k_asm); (case k5'w => k_asm); (case kK'w => first | exact rfl | assumption); (case kd'w => ktr_room); (case ku'w => ktr_units)); intro t9'w h9'w tk9'w F9'w N9'w; (try dsimp only); (try k_fold))
  trivial

theorem fresh_splitroot28 : True := by
  w_top off
  trivial
theorem c_splitroot (w : World) (x : Str) (t : Tok) (hx0 : 0 < x.length) (hx1 : x.length ≤ 1000) (hsl : (Txt.slice x none (some 1) != Str.ofString "/") = true) :
    Con w 4 215 [] [.str x t] (fun h r led' => ∃ D t1 t2 t3, r = .ref D ∧ h.get? D = none ∧ (D, ({ cls := .type "tuple", data := .seq #[.str (Str.ofString "") t1, .str (Str.ofString "") t2, .str x t3] } : Obj)) ∈ led') := by
  unfold Con
  k_fill
  intros
  rename_i hret
  (refine wpAny_call ?_; k_dflt (refine' enterL (binds := [(Str.ofString "p", .str x t)]) ?k1 ?k2 ?k3 ?k4 ?k5 ?kA ?kF ?kK ?k6 ?k7 ?k8 ?k9 ?kB ?_ ?c2 ?c3 ?c4 ?c5; (case kA => exact rfl); (case kF => exact rfl); (case kK => first | assumption | exact rfl); (case k1 => k_asm); (case k2 => k_asm); (case k3 => k_asm); (case k4 => assumption); (case k5 => k_asm); (case k6 => k_is); (case k7 => k_is); (case k8 => ktr_room); (case k9 => first | exact BindsTo.of_eq rfl | exact binds_K (by k_in) rfl (by k_is) rfl rfl rfl); (case kB => exact locs rfl); (case c5 => decide); (case c2 => exact rfl); (case c3 => exact rfl); (case c4 => exact rfl); k_whole; intro g' L' h' kb' F' N' B' X' T' l1; (try k_lt l1); (try dsimp only); (try k_lift B'); (try k_fold)))
  k_steps
  all_goals dsimp only
  refine hret _ _ _ _ (KeepsBut.then (by assumption) (by assumption)) (by assumption) (by assumption) ⟨_, _, _, _, rfl, fresh_of (by assumption) (by simp) (News.fresh (by assumption) (List.Mem.head _)), List.Mem.head _⟩
theorem splitroot_use {w : World} {x : Str} {t : Tok} (hx0 : 0 < x.length) (hx1 : x.length ≤ 1000) (hsl : (Txt.slice x none (some 1) != Str.ofString "/") = true) {news : List (Addr × Obj)}
    {p : Program} {loose : List Str} {mean : ExcName → Option Value} {mg mb : Str → Option Value} {dp un : Nat} {gd : Option (List Code)} {cn : Str} {cs : Scope} {a : Addr} {ccd : Value} {cl : List (Str × Addr)} {outer : List Env} {A₀ : Around} {base h₀ : Heap} {L : Addr} {m : Str → Option Value} {s : Shared} {Q E : Value → Shared → Prop}
    (B : Below A₀ base outer h₀) (F : Fr h₀ L s.heap m) (X : Frag.In (Mine.kp w.params) h₀) (N : News h₀ L s.heap news) (T : Top p loose mean mg mb h₀) (hk : cs.kind = .function)
    (hd : dp + 4 < recursionLimit) (hu : un + 8 * 4 < cLine)
    (ret : ∀ D t1 t2 t3 h' tk', Fr h₀ L h' m → News h₀ L h' ((D, ({ cls := .type "tuple", data := .seq #[.str (Str.ofString "") t1, .str (Str.ofString "") t2, .str x t3] } : Obj)) :: news) → (∀ p ∈ news, p.1 ≠ D) → Q (.ref D) { s with heap := h', toks := tk' }) :
    wpAny (model PySem.Challenge.rw_qw0042_01.row.prog w) (ktrTop dp un gd cn cs L a ccd cl outer) (call (.ref 215) [.str x t]) Q E s :=
  con_use (c_splitroot w x t hx0 hx1 hsl) B F X N T hk hd hu fun r led' h' tk' _ F' N' N9 ⟨D, t1, t2, t3, e, hD, hm⟩ => by
    subst e
    exact ret D t1 t2 t3 h' tk' F' (news_cons N' hm N9) (ne_of_fresh N hD)

theorem lines_splitroot29 : True := by
  k_with "call ref" => (k_here; (with_reducible show wpAny _ _ (call (Value.ref 215) [Value.str _ _]) _ _ _); k_dflt (refine' splitroot_use ?p1'w ?p2'w ?p3'w ?k1'w ?k2'w ?k3'w ?k4'w ?k5'w ?kK'w ?kd'w ?ku'w ?_; (case p1'w => assumption); (case p2'w => assumption); (case p3'w => assumption); (case k1'w => k_asm); (case k2'w => k_asm); (case k3'w => k_asm); (case k4'w => k_asm); (case k5'w => k_asm); (case kK'w => first | exact rfl | assumption); (case kd'w => ktr_room); (case ku'w => ktr_units)); intro D9'w t91'w t92'w t93'w h9'w tk9'w F9'w N9'w l9'w; (try simp only [List.forall_mem_cons, List.forall_mem_nil, and_true] at l9'w); (try dsimp only); (try k_fold))
  trivial

theorem fresh_loop30 : True := by
  w_top off
  trivial
section
variable {prog : Program} {w : World} {A : Around} {E : Value → Shared → Prop} {s : Shared} {env : Env} {h₀ : Heap} {x : Str} {body : List Stmt} {Q : Flow → Shared → Prop}
/-- what a turn of such a loop must bring: the grown list's texts are f's, all else of the ledger stands -/
def LsS (l' Cs : Addr) (vs : List Value) (nn : Nat) (rest : List (Addr × Obj)) (x : Str) (m₀ : Str → Option Value) (acc : List Str) (m : Str → Option Value) (nx : List (Addr × Obj)) : Prop :=
  ∃ us n, nx = (l', listOf us.toArray n) :: (Cs, listOf vs.toArray nn) :: rest ∧ StrsAre us acc ∧ ∀ z, z ≠ x → m z = m₀ z

theorem strs_loop {l' Cs : Addr} {rest : List (Addr × Obj)} {vs us₀ : List Value} {nn n₀ : Nat} {cs acc₀ : List Str} {m₀ : Str → Option Value} (f : List Str → Str → List Str)
    (hh : A.handled = none) (F : Fr h₀ env.locals s.heap m₀) (N : News h₀ env.locals s.heap ((l', listOf us₀.toArray n₀) :: (Cs, listOf vs.toArray nn) :: rest)) (hvs : StrsAre vs cs) (h0 : StrsAre us₀ acc₀)
    (turn : ∀ i c t us acc n h tk own, cs[i]? = some c → acc = (cs.take i).foldl f acc₀ → StrsAre us acc → OwnOff own (l' :: Cs :: rest.map (·.1)) → Fr h₀ env.locals h (fun y => if y = x then some (.str c t) else m₀ y) →
      News h₀ env.locals h ((l', listOf us.toArray n) :: (Cs, listOf vs.toArray nn) :: (rest ++ own)) →
      wpAny (model prog w) A (execs body env) (InvPostG h₀ env.locals (LsS l' Cs vs nn rest x m₀ (f acc c)) own { s with heap := h, toks := tk } Q) E { s with heap := h, toks := tk })
    (done : ∀ (u : Str → Option Value) us n h tk, StrsAre us (cs.foldl f acc₀) → Fr h₀ env.locals h (fun y => if y = x then u y else m₀ y) → News h₀ env.locals h ((l', listOf us.toArray n) :: (Cs, listOf vs.toArray nn) :: rest) → Q .next { s with heap := h, toks := tk }) :
    wpAny (model prog w) A (pyIter (.ref Cs)) (fun it s₂ => LoopAtV prog w A h₀ env x body Q E it s₂) E s := by
  have hlen : vs.length = cs.length := hvs.length
  refine kdl_iter (l := Cs) (vs := vs) (nn := nn) (fun i m nx => LsS l' Cs vs nn rest x m₀ ((cs.take i).foldl f acc₀) m nx) hh (.tail _ (.head _)) F N ⟨us₀, n₀, rfl, by simpa using h0, fun _ _ => rfl⟩ ?_ ?_
  · rintro i v m₁ nx h tk own hv hoff _ ⟨us, n, rfl, hS, hm⟩ F₁ N₁
    obtain ⟨c, t, rfl, hc⟩ := StrsAre.item hvs i v hv
    have hs : (cs.take (i + 1)).foldl f acc₀ = f ((cs.take i).foldl f acc₀) c := by rw [List.take_add_one, hc]; simp
    rw [map_none hm] at F₁
    rw [hs]
    refine wpAny_mono (turn i c t us _ n h tk own hc rfl hS hoff F₁ N₁) (fun fl s₂ p => ?_) fun _ _ e => e
    have up : InvEndG h₀ env.locals (LsS l' Cs vs nn rest x m₀ (f ((cs.take i).foldl f acc₀) c)) own { s with heap := h, toks := tk } s₂ →
        InvEndG h₀ env.locals (fun m' nx => (Cs, listOf vs.toArray nn) ∈ nx ∧ LsS l' Cs vs nn rest x m₀ (f ((cs.take i).foldl f acc₀) c) m' nx) own { s with heap := h, toks := tk } s₂ := by
      rintro ⟨h', tk', m', news', nx, e, F', N', hn, ho, ha, hJ⟩
      refine ⟨h', tk', m', news', nx, e, F', N', hn, ho, ha, ?_, hJ⟩
      obtain ⟨us', n', rfl, _, _⟩ := hJ
      exact .tail _ (.head _)
    cases fl with
    | ret v => exact p
    | brk => exact p
    | next => exact up p
    | cont => exact up p
  · rintro m₁ nx h tk ⟨us, n, rfl, hS, hm⟩ F₁ N₁
    rw [hlen, List.take_length] at hS
    exact done m₁ us n h tk hS (by rw [done_none hm]; exact F₁) N₁

theorem ls_end {L l' Cs : Addr} {vs us : List Value} {nn n : Nat} {rest own : List (Addr × Obj)} {m₀ m' : Str → Option Value} {acc : List Str} {s₁ : Shared} {h' : Heap} {tk : Nat}
    (F : Fr h₀ L h' m') (N : News h₀ L h' ((l', listOf us.toArray n) :: (Cs, listOf vs.toArray nn) :: (rest ++ own))) (hS : StrsAre us acc) (hm : ∀ z, z ≠ x → m' z = m₀ z) (hoff : OwnOff own (l' :: Cs :: rest.map (·.1))) :
    InvEndG h₀ L (LsS l' Cs vs nn rest x m₀ acc) own s₁ { s₁ with heap := h', toks := tk } :=
  InvEndG.intro F N ⟨us, n, rfl, hS, hm⟩ hoff (fun p hp => by
    rcases List.mem_cons.mp hp with rfl | hp
    · exact .head _
    · rcases List.mem_cons.mp hp with rfl | hp
      · exact .tail _ (.head _)
      · exact .tail _ (.tail _ (List.mem_append.mpr (.inl hp)))) fun p hp => .tail _ (.tail _ (List.mem_append.mpr (.inr hp)))
end

/-- the next list of normpath's loop -/
noncomputable def normStep (acc : List Str) (c : Str) : List Str :=
  if c = Str.ofString "" ∨ c = Str.ofString "." then acc
  else if c ≠ Str.ofString ".." ∨ acc = [] ∨ acc.getLast? = some (Str.ofString "..") then acc ++ [c]
  else acc.dropLast

section
variable {prog : Program} {w : World} {A : Around} {E : Value → Shared → Prop} {s : Shared} {h₀ : Heap} {L l : Addr} {news : List (Addr × Obj)}
theorem truthy_snoc {us : List Value} {v : Value} {n : Nat} {Q : Bool → Shared → Prop} (N : News h₀ L s.heap news) (hm : (l, listOf (us ++ [v]).toArray n) ∈ news) (hz : us.length ≤ 100000) (h : Q true { s with toks := s.toks + 1 + 1 }) :
    wpAny (model prog w) A (truthy (.ref l)) Q E s :=
  wpAny_truthy_list (items := (us ++ [v]).toArray) ⟨_, (N _ hm).1, rfl, n, rfl⟩ (by simp only [List.size_toArray, List.length_append, List.length_cons, List.length_nil]; omega) (by
    have e : (!(us ++ [v]).toArray.isEmpty) = true := by simp
    rw [e]; exact h)
theorem truthy_nil {n : Nat} {Q : Bool → Shared → Prop} (N : News h₀ L s.heap news) (hm : (l, listOf [].toArray n) ∈ news) (h : Q false { s with toks := s.toks + 1 + 1 }) :
    wpAny (model prog w) A (truthy (.ref l)) Q E s :=
  wpAny_truthy_list (items := [].toArray) ⟨_, (N _ hm).1, rfl, n, rfl⟩ (by decide) h
theorem last_snoc {value slice : Expr} {us : List Value} {v : Value} {n : Nat} {u : Tok} {Q : Value → Shared → Prop} (N : News h₀ L s.heap news) (hm : (l, listOf (us ++ [v]).toArray n) ∈ news) (hz : us.length ≤ 100000) (h : Q v s)
    (hs : subscripted slice false (.ref l) (.int (-1) u) = operate [.ref l, .int (-1) u] (getItem (.ref l) (.int (-1) u)) := by with_unfolding_all rfl) :
    wpAny (model prog w) A (subscriptTail value slice (.ref l) (.int (-1) u)) Q E s := by
  have hl : s.heap.IsList l (us ++ [v]).toArray := ⟨_, (N _ hm).1, rfl, n, rfl⟩
  refine tail_any hl.typeIs slot_list_getitem.lookup (wpAny_getItem_list_neg hl (by decide) ?_ (by decide) ?_ h) hs
  · simp only [List.size_toArray, List.length_append, List.length_cons, List.length_nil]; omega
  · have e : (-1 + (((us ++ [v]).toArray.size : Nat) : Int)).toNat = us.length := by
      simp only [List.size_toArray, List.length_append, List.length_cons, List.length_nil]; omega
    rw [e]; simp
theorem pop_snoc {us : List Value} {v : Value} {n : Nat} {m : Str → Option Value} {news' : List (Addr × Obj)} {Q : Value → Shared → Prop} (F : Fr h₀ L s.heap m) (N : News h₀ L s.heap news)
    (U : Upd l (listOf (us ++ [v]).toArray n) (listOf us.toArray (n + 1)) news news') (hz : us.length ≤ 100000) (h : ∀ h', Fr h₀ L h' m → News h₀ L h' news' → Q v { s with heap := h' }) :
    wpAny (model prog w) A (call (.builtin "list.pop") [.ref l]) Q E s :=
  kl_pop F N (p := us) (y := v) (by simpa using kpa_last v us) U (by simp only [sizeLine_eq, List.length_append, List.length_cons, List.length_nil]; omega) h
theorem append_any {us : List Value} {v : Value} {n : Nat} {m : Str → Option Value} {news' : List (Addr × Obj)} {Q : Value → Shared → Prop} (F : Fr h₀ L s.heap m) (N : News h₀ L s.heap news)
    (U : Upd l (listOf us.toArray n) (listOf (us ++ [v]).toArray (n + 1)) news news') (hz : us.length ≤ 100000) (h : ∀ h', Fr h₀ L h' m → News h₀ L h' news' → Q .none { s with heap := h' }) :
    wpAny (model prog w) A (call (.builtin "list.append") [.ref l, v]) Q E s :=
  append_K (its := us.toArray) (n := n) F N (by rw [List.push_toArray]; exact U) h (by simp only [sizeLine_eq, List.size_toArray]; omega)
end
theorem strs_snoc : ∀ {us : List Value} {acc : List Str}, StrsAre us acc → acc ≠ [] → ∃ us' t acc' d, us = us' ++ [Value.str d t] ∧ acc = acc' ++ [d] ∧ StrsAre us' acc'
  | _, _, .nil, h => absurd rfl h
  | _, _, .cons c t .nil, _ => ⟨[], t, [], c, rfl, rfl, .nil⟩
  | _, _, .cons c t (.cons d t₁ r), _ => by
    obtain ⟨us', t', acc', d', e1, e2, hS⟩ := strs_snoc (.cons d t₁ r) (by simp)
    exact ⟨.str c t :: us', t', c :: acc', d', by rw [e1]; rfl, by rw [e2]; rfl, .cons c t hS⟩
theorem strs_push : ∀ {us : List Value} {acc : List Str}, StrsAre us acc → ∀ (d : Str) (t : Tok), StrsAre (us ++ [.str d t]) (acc ++ [d])
  | _, _, .nil, d, t => .cons d t .nil
  | _, _, .cons c t' r, d, t => .cons c t' (strs_push r d t)


theorem lines_loop31 : True := by
  k_with "truthy ref" => (k_here; (with_reducible show wpAny _ _ (truthy (Value.ref _)) _ _ _); with_reducible (refine' truthy_nil ?kN'w ?km'w ?_; (case kN'w => assumption); (case km'w => with_reducible_and_instances k_mem); k_whole))
  k_with "truthy ref" => (k_here; (with_reducible show wpAny _ _ (truthy (Value.ref _)) _ _ _); with_reducible (refine' truthy_snoc ?kN'w ?km'w ?kz'w ?_; (case kN'w => assumption); (case km'w => with_reducible_and_instances k_mem); (case kz'w => omega); k_whole))
  k_with "subscriptTail Name UnaryOp ref int" => (k_here; (with_reducible show wpAny _ _ (subscriptTail _ _ (Value.ref _) (Value.int _ _)) _ _ _); with_reducible (refine' last_snoc ?kN'w ?km'w ?kz'w ?_ ?ks'w; (case kN'w => assumption); (case km'w => with_reducible_and_instances k_mem); (case kz'w => omega); (case ks'w => with_unfolding_all rfl); k_whole))
  k_with "call builtin:list.pop" => (k_here; (with_reducible show wpAny _ _ (call (Value.builtin "list.pop") [Value.ref _]) _ _ _); with_reducible (refine' pop_snoc ?kF'w ?kN'w ?kU'w ?kz'w ?_; (case kF'w => assumption); (case kN'w => assumption); (case kU'w => with_reducible_and_instances k_upd); (case kz'w => omega); k_whole); intro h''w F''w N''w; (try k_sweep))
  k_with "call builtin:list.append" => (k_here; (with_reducible show wpAny _ _ (call (Value.builtin "list.append") [Value.ref _, _]) _ _ _); with_reducible (refine' append_any ?kF'w ?kN'w ?kU'w ?kz'w ?_; (case kF'w => assumption); (case kN'w => assumption); (case kU'w => with_reducible_and_instances k_upd); (case kz'w => first | omega | (simp only [List.length_append, List.length_cons, List.length_nil]; omega)); k_whole); intro h''w F''w N''w; (try k_sweep))
  k_with "call builtin:str.join" => (k_here; (with_reducible show wpAny _ _ (call (Value.builtin "str.join") [Value.str _ _, Value.ref _]) _ _ _); refine' join_listW (News.isList ?kN'w ?km'w) ?ki'w ?ks'w ?kw'w ?_; (case kN'w => with_reducible assumption); (case km'w => with_reducible_and_instances k_mem); (case ki'w => with_reducible assumption); (case ks'w => decide +kernel); (case kw'w => with_reducible assumption); k_whole; intro _ _)
  trivial

theorem fresh_normpath32 : True := by
  w_top off
  trivial
theorem normStep_len (acc : List Str) (c : Str) : (normStep acc c).length ≤ acc.length + 1 := by
  unfold normStep
  repeat' split
  · omega
  · simp
  · simp; omega
theorem normFold_len : ∀ (cs acc : List Str), (cs.foldl normStep acc).length ≤ acc.length + cs.length
  | [], _ => by simp
  | c :: cs, acc => by
    have h1 := normFold_len cs (normStep acc c)
    have h2 := normStep_len acc c
    simp only [List.foldl_cons, List.length_cons]
    omega

theorem normStep_mem {acc : List Str} {c a : Str} (h : a ∈ normStep acc c) : a ∈ acc ∨ a = c := by
  unfold normStep at h
  split at h
  · exact .inl h
  · split at h
    · rcases List.mem_append.mp h with h | h
      · exact .inl h
      · exact .inr (List.mem_singleton.mp h)
    · exact .inl (List.dropLast_subset _ h)
theorem normFold_mem : ∀ (cs acc : List Str) (a : Str), a ∈ cs.foldl normStep acc → a ∈ acc ∨ a ∈ cs
  | [], _, _, h => .inl h
  | c :: cs, acc, a, h => by
    rcases normFold_mem cs (normStep acc c) a h with h | h
    · rcases normStep_mem h with h | h
      · exact .inl h
      · exact .inr (h ▸ .head _)
    · exact .inr (.tail _ h)
theorem sum_len_le {k : Nat} : ∀ (l : List Str), (∀ a ∈ l, a.length ≤ k) → (l.map (·.length)).sum ≤ l.length * k
  | [], _ => by simp
  | a :: l, h => by
    have h1 := sum_len_le l fun b hb => h b (.tail _ hb)
    have h2 := h a (.head _)
    simp only [List.map_cons, List.sum_cons, List.length_cons, Nat.succ_mul]
    omega
theorem normStep_skip {acc : List Str} {c : Str} (h : c = Str.ofString "" ∨ c = Str.ofString ".") : normStep acc c = acc := if_pos h
theorem normStep_push {acc : List Str} {c : Str} (h1 : c ≠ Str.ofString "") (h2 : c ≠ Str.ofString ".") (h3 : c ≠ Str.ofString ".." ∨ acc = [] ∨ acc.getLast? = some (Str.ofString "..")) : normStep acc c = acc ++ [c] := by
  unfold normStep
  rw [if_neg (fun h => h.elim h1 h2), if_pos h3]
theorem normStep_pop {acc : List Str} {d : Str} (h : d ≠ Str.ofString "..") : normStep (acc ++ [d]) (Str.ofString "..") = acc := by
  unfold normStep
  rw [if_neg (by decide +kernel), if_neg (by simp [h])]
  simp
theorem str_pos {c : Str} (h : c ≠ Str.ofString "") : 0 < c.length := by
  rcases c with ⟨⟨l⟩⟩
  cases l with
  | nil => exact absurd (by decide +kernel) h
  | cons a r => show 0 < (a :: r).length; simp
theorem if_off {x : Str} {m : Str → Option Value} {v : Option Value} : ∀ z, z ≠ x → (fun y => if y = x then v else m y) z = m z := fun _ hz => if_neg hz

noncomputable def normOf (cs : List Str) : Str :=
  if ((Str.ofString "" ++ Txt.join (Str.ofString "/") (cs.foldl normStep [])).length : Int) = 0 then Str.ofString "." else Str.ofString "" ++ Txt.join (Str.ofString "/") (cs.foldl normStep [])
theorem normOf_pos {cs : List Str} (h : ((Str.ofString "" ++ Txt.join (Str.ofString "/") (cs.foldl normStep [])).length : Int) ≠ 0) : Str.ofString "" ++ Txt.join (Str.ofString "/") (cs.foldl normStep []) = normOf cs := (if_neg h).symm
theorem normOf_nil {cs : List Str} (h : ((Str.ofString "" ++ Txt.join (Str.ofString "/") (cs.foldl normStep [])).length : Int) = 0) : Str.ofString "." = normOf cs := (if_pos h).symm

theorem c_normpath (w : World) (x : Str) (t : Tok) (cs : List Str) (hcs : Txt.split x (Str.ofString "/") = cs) (hcl : cs.length ≤ 1000) (hx0 : 0 < x.length) (hx1 : x.length ≤ 1000) (hsl : (Txt.slice x none (some 1) != Str.ofString "/") = true) :
    ConP w 8 222 [.str x t] (fun t => .str (normOf cs) t) := by
  unfold ConP Con
  k_fill
  intros
  rename_i hret
  (refine wpAny_call ?_; k_dflt (refine' enterL (binds := [(Str.ofString "path", .str x t)]) ?k1 ?k2 ?k3 ?k4 ?k5 ?kA ?kF ?kK ?k6 ?k7 ?k8 ?k9 ?kB ?_ ?c2 ?c3 ?c4 ?c5; (case kA => exact rfl); (case kF => exact rfl); (case kK => first | assumption | exact rfl); (case k1 => k_asm); (case k2 => k_asm); (case k3 => k_asm); (case k4 => assumption); (case k5 => k_asm); (case k6 => k_is); (case k7 => k_is); (case k8 => ktr_room); (case k9 => first | exact BindsTo.of_eq rfl | exact binds_K (by k_in) rfl (by k_is) rfl rfl rfl); (case kB => exact locs rfl); (case c5 => decide); (case c2 => exact rfl); (case c3 => exact rfl); (case c4 => exact rfl); k_whole; intro g' L' h' kb' F' N' B' X' T' l1; (try k_lt l1); (try dsimp only); (try k_lift B'); (try k_fold)))
  k_steps
  case' _ => skip
  rotate_left
  · exfalso; omega
  rename (List.map _ _ = Txt.split _ _) => hE1
  rename (StrsAre _ _) => hS1
  rename (∀ a, a ∈ List.map _ _ → _) => hB1
  rename (Fr _ _ _ _) => F1
  rename (News _ _ _ _) => N1
  rw [hE1, hcs] at hS1 hB1
  refine strs_loop (us₀ := []) (n₀ := 0) (nn := 0) (acc₀ := []) normStep rfl F1 N1 hS1 .nil ?turn ?done
  case done =>
    intro u us n h tk hS F2 N2
    clear F1 N1 hE1
    generalize hacc : List.foldl normStep [] cs = acc at hS
    have hul : us.length ≤ 1000 := by
      have h1 := hS.length
      have h2 := normFold_len cs []
      rw [hacc] at h2
      simp only [List.length_nil] at h2
      omega
    have hw1 : (acc.map (·.length)).sum + acc.length ≤ 1048576 := by
      have h1 := sum_len_le (k := 1000) acc fun a ha => by
        rw [← hacc] at ha
        rcases normFold_mem cs [] a ha with h | h
        · cases h
        · exact Nat.le_trans (hB1 a h) hx1
      have h2 := hS.length
      omega
    have hw2 : (Txt.join (Str.ofString "/") acc).length ≤ 1048576 := by
      show (Builtin.Str.glued (Str.ofString "/") acc).length ≤ 1048576
      rw [StrLaws.glued_eq_join]
      refine Nat.le_trans (StrLaws.join_length_le _ _) ?_
      have e : (Str.ofString "/").length = 1 := by decide +kernel
      rw [e, Nat.mul_one]
      exact hw1
    have hw3 : (Str.ofString "" ++ Txt.join (Str.ofString "/") acc).length ≤ 1048576 := by
      rw [Str.length_append]
      have e : (Str.ofString "").length = 0 := by decide +kernel
      omega
    k_steps
    · dsimp only
      refine conP_ret hret (by assumption) (by assumption) (by assumption) ⟨_, congrArg (Value.str · _) (hacc ▸ normOf_pos (cs := cs) (hacc.symm ▸ ?_))⟩ (by assumption)
      assumption
    · dsimp only
      refine conP_ret hret (by assumption) (by assumption) (by assumption) ⟨_, congrArg (Value.str · _) (normOf_nil (cs := cs) (hacc.symm ▸ ?_))⟩ (by assumption)
      assumption
  case turn =>
    intro i c tc us acc n h tk own hc hacc hS hoff F2 N2
    clear F1 N1
    have hul : us.length ≤ 1000 := by
      have h1 := hS.length
      have h2 := normFold_len (cs.take i) []
      rw [← hacc] at h2
      have h3 : (cs.take i).length ≤ cs.length := by rw [List.length_take]; exact Nat.min_le_right _ _
      simp only [List.length_nil] at h2
      omega
    have hcl1 : c.length ≤ x.length := hB1 c (List.mem_of_getElem? hc)
    simp only [List.cons_append, List.nil_append] at N2
    simp only [List.map_cons, List.map_nil] at hoff
    clear hacc hc hB1 hS1 hE1
    by_cases c1 : c = Str.ofString ""
    · subst c1
      (show wpAny _ _ _ _ _ _); (try k_fold)
      k_steps
      all_goals first | (exfalso; omega) | exact ls_end (by assumption) (by assumption) (by rw [normStep_skip (.inl rfl)]; exact hS) if_off hoff
    by_cases c2 : c = Str.ofString "."
    · subst c2
      (show wpAny _ _ _ _ _ _); (try k_fold)
      k_steps
      all_goals first | (exfalso; omega) | exact ls_end (by assumption) (by assumption) (by rw [normStep_skip (.inr rfl)]; exact hS) if_off hoff
    have c1' : 0 < c.length := str_pos c1
    have c2' : (c == Str.ofString ".") = false := by simpa using c2
    by_cases c3 : c = Str.ofString ".."
    · subst c3
      by_cases a1 : acc = []
      · subst a1
        cases hS
        (show wpAny _ _ _ _ _ _); (try k_fold)
        k_steps
        all_goals first | (exfalso; omega) | exact ls_end (us := [Value.str (Str.ofString "..") tc]) (by assumption) (by assumption) (by rw [normStep_push c1 c2 (.inr (.inl rfl))]; exact .cons _ _ .nil) if_off hoff
      · obtain ⟨us', t', acc', d, rfl, rfl, hS'⟩ := strs_snoc hS a1
        have hul' : us'.length ≤ 1000 := by simp only [List.length_append] at hul; omega
        by_cases d1 : d = Str.ofString ".."
        · subst d1
          (show wpAny _ _ _ _ _ _); (try k_fold)
          k_steps
          all_goals first | (exfalso; omega) | exact ls_end (by assumption) (by assumption) (by rw [normStep_push c1 c2 (.inr (.inr (by simp)))]; exact strs_push hS _ _) if_off hoff
        · have d1' : (d == Str.ofString "..") = false := by simpa using d1
          (show wpAny _ _ _ _ _ _); (try k_fold)
          k_steps
          all_goals first | (exfalso; omega) | exact ls_end (by assumption) (by assumption) (by rw [normStep_pop d1]; exact hS') if_off hoff
    · have c3' : (c != Str.ofString "..") = true := by simpa using c3
      (show wpAny _ _ _ _ _ _); (try k_fold)
      k_steps
      all_goals first | (exfalso; omega) | exact ls_end (by assumption) (by assumption) (by rw [normStep_push c1 c2 (.inl c3)]; exact strs_push hS _ _) if_off hoff

theorem lines_normpath33 : True := by
  k_with "call ref" => (k_here; (with_reducible show wpAny _ _ (call (Value.ref 222) [Value.str _ _]) _ _ _); k_dflt (refine' conP_use (c_normpath _ _ _ _ ?p1'w ?p2'w ?p3'w ?p4'w ?p5'w) ?k1'w ?k2'w ?k3'w ?k4'w ?k5'w ?kK'w ?kd'w ?ku'w ?_; (case p1'w => with_reducible assumption); (case p2'w => assumption); (case p3'w => assumption); (case p4'w => assumption); (case p5'w => assumption); (case k1'w => k_asm); (case k2'w => k_asm); (case k3'w => k_asm); (case k4'w => k_asm); (case k5'w => k_asm); (case kK'w => first | exact rfl | assumption); (case kd'w => ktr_room); (case ku'w => ktr_units)); intro t9'w h9'w tk9'w F9'w N9'w; (try dsimp only); (try k_fold))
  trivial

theorem fresh_iter34 : True := by
  w_top off
  trivial
section
variable {prog : Program} {w : World} {A : Around} {E : Value → Shared → Prop} {s : Shared} {h₀ : Heap} {L l : Addr} {m : Str → Option Value} {news : List (Addr × Obj)}
abbrev itObj (l : Addr) : Obj := { cls := .type "list_iterator", data := .fields #[.ref l, .int 0 0] }
theorem iter_list {items : Array Value} {n : Nat} {Q : Value → Shared → Prop} (F : Fr h₀ L s.heap m) (N : News h₀ L s.heap news) (hm : (l, listOf items n) ∈ news)
    (h : ∀ I h', Fr h₀ L h' m → News h₀ L h' ((I, itObj l) :: news) → (∀ p ∈ news, p.1 < I) → Q (.ref I) { s with heap := h' }) :
    wpAny (model prog w) A (call (.builtin "iter") [.ref l]) Q E s := by
  have hl : s.heap.IsList l items := ⟨_, (N _ hm).1, rfl, n, rfl⟩
  refine call_function_entry (by decide +kernel) (by decide +kernel) kdk_entry_iter (kdk_args_iter _) ?_
  unfold Builtin.«iter»
  refine wpAny_bind (m := someArgs "iter" 1 2 _) (wpAny_of_eq (a := [Value.ref l]) (by first | rfl | kernel_rfl!) ?_)
  show wpAny _ _ (pyIter (.ref l) >>= _) _ _ _
  exact wpAny_bind (wpAny_pyIter_list hl (wpAny_pure ⟨_, rfl, h _ _ (F.push _) (News.push F N _ rfl) fun p hp => Heap.lt_size (N p hp).1⟩))
end

section
variable {prog : Program} {w : World} {A : Around} {E : Value → Shared → Prop} {s : Shared} {env : Env} {h₀ : Heap} {x : Str} {body : List Stmt} {Q : Flow → Shared → Prop}
theorem it_loop {I l : Addr} {vs : List Value} {nn : Nat} {m₀ : Str → Option Value} {all news : List (Addr × Obj)} (J : Nat → (Str → Option Value) → List (Addr × Obj) → Prop)
    (hh : A.handled = none) (F : Fr h₀ env.locals s.heap m₀) (N : News h₀ env.locals s.heap all) (hI : (I, itObj l) ∈ all) (hsub : ∀ p ∈ news, p ∈ all) (hoffI : ∀ p ∈ news, p.1 ≠ I) (hl : (l, listOf vs.toArray nn) ∈ news) (hj : J 0 m₀ news)
    (turn : ∀ i v m₁ news₁ h tk own, vs[i]? = some v → OwnOff own (news₁.map (·.1)) → (l, listOf vs.toArray nn) ∈ news₁ → J i m₁ news₁ → Fr h₀ env.locals h (fun y => if y = x then some v else m₁ y) → News h₀ env.locals h (news₁ ++ own) →
      wpAny (model prog w) A (execs body env) (InvPostG h₀ env.locals (fun m' nx => (l, listOf vs.toArray nn) ∈ nx ∧ J (i + 1) m' nx) own { s with heap := h, toks := tk } Q) E { s with heap := h, toks := tk })
    (done : ∀ m₁ news₁ h tk, J vs.length m₁ news₁ → Fr h₀ env.locals h m₁ → News h₀ env.locals h news₁ → Q .next { s with heap := h, toks := tk }) :
    wpAny (model prog w) A (pyIter (.ref I)) (fun it s₂ => LoopAtV prog w A h₀ env x body Q E it s₂) E s := by
  have hN : News h₀ env.locals s.heap news := fun p hp => N p (hsub p hp)
  have hol : s.heap.get? l = some (listOf vs.toArray nn) := (hN _ hl).1
  have hls : s.heap.IsList l vs.toArray := ⟨_, hol, rfl, nn, rfl⟩
  have hIt : s.heap.IsListIter I l 0 := ⟨_, (N _ hI).1, rfl, rfl⟩
  have hne : l ≠ I := hoffI _ hl
  have hI0 : h₀.get? I = none := (N _ hI).2.2
  refine wpAny_pyIter_listiter hIt ?_
  have W := Walks.list (prog := prog) (w := w) hh I l hne vs.toArray
  have hlen : vs.toArray.size = vs.length := by simp
  rw [hlen] at W
  refine ⟨_, _, _, vs.length, _, _, m₀, news, (fun i m nx => (l, listOf vs.toArray nn) ∈ nx ∧ J i m nx), rfl, W, ?_, ?_, ?_, ⟨hIt, hls⟩, F, hN, ⟨hl, hj⟩, ?_, ?_⟩
  · intro hm
    rcases List.mem_cons.mp hm with e | hm
    · exact (N _ hI).2.1 e.symm
    · exact (hN _ hl).2.1 ((List.mem_singleton.mp hm).symm)
  · intro b hb
    rw [List.mem_singleton.mp hb]
    exact hI0
  · intro p hp hq
    exact hoffI p hp (List.mem_singleton.mp hq)
  · rintro i v m₁ news₁ s₁ own ⟨hh', tk', rfl⟩ hin hP ⟨hl₁, hJ⟩ hoff hown hget hfp hst F₁ N₁
    have hP' : vs[i]? = some v := by simpa using hP
    obtain ⟨⟨oI, hoI, _⟩, _⟩ := id hst
    have hIown : (I, oI) ∈ own.filter fun p => decide (p.1 = I) := List.mem_filter.mpr ⟨hfp _ (List.mem_cons.mpr (.inl rfl)) hI0 _ hoI, by simp⟩
    have hsep : OwnOff (own.filter fun p => decide (p.1 = I)) (news₁.map (·.1)) := by
      intro p hp b hb e
      obtain ⟨q, hq, rfl⟩ := List.mem_map.mp hb
      have h1 : p.1 = I := by simpa using (List.mem_filter.mp hp).2
      exact hoff q hq (List.mem_singleton.mpr (e ▸ h1))
    have N₂ : News h₀ env.locals hh' (news₁ ++ own.filter fun p => decide (p.1 = I)) := fun p hp => N₁ p ((List.mem_append.mp hp).elim (fun h => List.mem_append.mpr (.inr h)) fun h => List.mem_append.mpr (.inl ((List.mem_filter.mp h).1)))
    have hlo : hh'.get? l = some (listOf vs.toArray nn) := (N₁ _ (List.mem_append.mpr (.inr hl₁))).1
    refine wpAny_mono (turn i v m₁ news₁ hh' tk' _ hP' hsep hl₁ hJ F₁ N₂) (fun f s₂ p => ?_) fun _ _ e => e
    have fin : InvEndG h₀ env.locals (fun m' nx => (l, listOf vs.toArray nn) ∈ nx ∧ J (i + 1) m' nx) (own.filter fun p => decide (p.1 = I)) { s with heap := hh', toks := tk' } s₂ →
        LoopStepU h₀ env.locals [I] own (fun m nx => (l, listOf vs.toArray nn) ∈ nx ∧ J (i + 1) m nx) { s with heap := hh', toks := tk' } .next s₂ := by
      rintro ⟨h', tk, m', news', nx, e, F', N', hn, ho, ha, hm⟩
      refine ⟨rfl, h', tk, m', nx, e, F', fun p hp => ?_, fun p hp hq => ?_, hm⟩
      · rcases List.mem_append.mp hp with h | h
        · by_cases hpI : p.1 = I
          · exact N' p (ho p (List.mem_filter.mpr ⟨h, by simpa using hpI⟩))
          · have h1 : p.1 = l := by
              rcases List.mem_cons.mp (hown p h) with h2 | h2
              · exact absurd h2 hpI
              · exact List.mem_singleton.mp h2
            have h2 : hh'.get? p.1 = some p.2 := hget p h
            rw [h1, hlo] at h2
            have h3 : p = (l, listOf vs.toArray nn) := Prod.ext h1 (Option.some.inj h2).symm
            rw [h3]
            exact N' _ (hn _ hm.1)
        · exact N' p (hn p h)
      · exact ha _ hIown p.1 (List.mem_map.mpr ⟨p, hp, rfl⟩) (List.mem_singleton.mp hq).symm
    cases f with
    | ret v => exact .ret p
    | brk => exact .brk p
    | next => exact .next (fin p)
    | cont => exact .cont (fin p)
  · rintro h' tk m' news' F' N' _ ⟨_, hJ⟩
    exact done m' news' h' tk hJ F' N'
end

theorem lines_iter35 : True := by
  k_with "call builtin:iter" => (k_here; (with_reducible show wpAny _ _ (call (Value.builtin "iter") [Value.ref _]) _ _ _); with_reducible (refine' iter_list ?kF'w ?kN'w ?km'w ?_; (case kF'w => assumption); (case kN'w => assumption); (case km'w => with_reducible_and_instances k_mem); k_whole); intro I''w h''w F''w N''w l1'w; (try k_lt l1'w); (try k_sweep))
  trivial

theorem fresh_red36 : True := by
  w_top off
  trivial
section
variable {prog : Program} {w : World} {A : Around} {E : Value → Shared → Prop} {s : Shared} {env : Env} {h₀ : Heap} {x : Str} {body : List Stmt} {Q : Flow → Shared → Prop}
/-- a loop that binds a name to a new list of texts at each turn -/
def RedS (rest : List (Addr × Obj)) (x av : Str) (m₀ : Str → Option Value) (acc : List Str) (m : Str → Option Value) (nx : List (Addr × Obj)) : Prop :=
  ∃ cur us n, nx = (cur, listOf us.toArray n) :: rest ∧ (∀ p ∈ rest, p.1 ≠ cur) ∧ StrsAre us acc ∧ m av = some (.ref cur) ∧ ∀ z, z ≠ x → z ≠ av → m z = m₀ z
theorem map_two {x av : Str} {m₁ m₀ : Str → Option Value} {v a : Value} (ha : m₁ av = some a) (hm : ∀ z, z ≠ x → z ≠ av → m₁ z = m₀ z) : (fun z => if z = x then some v else m₁ z) = fun z => if z = x then some v else if z = av then some a else m₀ z := by
  funext z
  by_cases h1 : z = x
  · simp [h1]
  · simp only [if_neg h1]
    by_cases h2 : z = av
    · rw [if_pos h2, h2, ha]
    · rw [if_neg h2]; exact hm z h1 h2
theorem red_loop {I l c₀ : Addr} {rest : List (Addr × Obj)} {vs us₀ : List Value} {nn n₀ : Nat} {ss acc₀ : List Str} {m₀ m₁ : Str → Option Value} {av : Str} (f : List Str → Str → List Str)
    (hh : A.handled = none) (F : Fr h₀ env.locals s.heap m₁) (N : News h₀ env.locals s.heap ((I, itObj l) :: (c₀, listOf us₀.toArray n₀) :: rest)) (hav : m₁ av = some (.ref c₀)) (hm : ∀ z, z ≠ x → z ≠ av → m₁ z = m₀ z)
    (hl : (l, listOf vs.toArray nn) ∈ rest) (hvs : StrsAre vs ss) (h0 : StrsAre us₀ acc₀) (hc : ∀ p ∈ rest, p.1 ≠ c₀) (hI : ∀ p ∈ (c₀, listOf us₀.toArray n₀) :: rest, p.1 ≠ I)
    (turn : ∀ i c t us acc cur n h tk own, ss[i]? = some c → acc = (ss.take i).foldl f acc₀ → StrsAre us acc → (∀ p ∈ rest, p.1 ≠ cur) → OwnOff own (cur :: rest.map (·.1)) →
      Fr h₀ env.locals h (fun y => if y = x then some (.str c t) else if y = av then some (.ref cur) else m₀ y) → News h₀ env.locals h ((cur, listOf us.toArray n) :: (rest ++ own)) →
      wpAny (model prog w) A (execs body env) (InvPostG h₀ env.locals (RedS rest x av m₀ (f acc c)) own { s with heap := h, toks := tk } Q) E { s with heap := h, toks := tk })
    (done : ∀ (u : Str → Option Value) cur us n h tk, StrsAre us (ss.foldl f acc₀) → (∀ p ∈ rest, p.1 ≠ cur) → Fr h₀ env.locals h (fun y => if y = x then u y else if y = av then some (.ref cur) else m₀ y) → News h₀ env.locals h ((cur, listOf us.toArray n) :: rest) → Q .next { s with heap := h, toks := tk }) :
    wpAny (model prog w) A (pyIter (.ref I)) (fun it s₂ => LoopAtV prog w A h₀ env x body Q E it s₂) E s := by
  have hlen : vs.length = ss.length := hvs.length
  refine it_loop (l := l) (vs := vs) (nn := nn) (news := (c₀, listOf us₀.toArray n₀) :: rest) (fun i m nx => RedS rest x av m₀ ((ss.take i).foldl f acc₀) m nx) hh F N (.head _) (fun p hp => .tail _ hp) hI (.tail _ hl) ⟨c₀, us₀, n₀, rfl, hc, by simpa using h0, hav, hm⟩ ?_ ?_
  · rintro i v m₁ nx h tk own hv hoff _ ⟨cur, us, n, rfl, hcur, hS, ha, hm⟩ F₁ N₁
    obtain ⟨c, t, rfl, hc⟩ := StrsAre.item hvs i v hv
    have hs : (ss.take (i + 1)).foldl f acc₀ = f ((ss.take i).foldl f acc₀) c := by rw [List.take_add_one, hc]; simp
    rw [map_two ha hm] at F₁
    rw [hs]
    refine wpAny_mono (turn i c t us _ cur n h tk own hc rfl hS hcur hoff F₁ N₁) (fun fl s₂ p => ?_) fun _ _ e => e
    have up : InvEndG h₀ env.locals (RedS rest x av m₀ (f ((ss.take i).foldl f acc₀) c)) own { s with heap := h, toks := tk } s₂ →
        InvEndG h₀ env.locals (fun m' nx => (l, listOf vs.toArray nn) ∈ nx ∧ RedS rest x av m₀ (f ((ss.take i).foldl f acc₀) c) m' nx) own { s with heap := h, toks := tk } s₂ := by
      rintro ⟨h', tk', m', news', nx, e, F', N', hn, ho, ha, hJ⟩
      refine ⟨h', tk', m', news', nx, e, F', N', hn, ho, ha, ?_, hJ⟩
      obtain ⟨cur', us', n', rfl, _⟩ := hJ
      exact .tail _ hl
    cases fl with
    | ret v => exact p
    | brk => exact p
    | next => exact up p
    | cont => exact up p
  · rintro m₁ nx h tk ⟨cur, us, n, rfl, hcur, hS, ha, hm⟩ F₁ N₁
    rw [hlen, List.take_length] at hS
    refine done m₁ cur us n h tk hS hcur ?_ N₁
    have e : (fun z => if z = x then m₁ z else if z = av then some (Value.ref cur) else m₀ z) = m₁ := by
      funext z
      by_cases h1 : z = x
      · simp [h1]
      · simp only [if_neg h1]
        by_cases h2 : z = av
        · rw [if_pos h2, h2, ha]
        · rw [if_neg h2]; exact (hm z h1 h2).symm
    rw [e]; exact F₁
theorem red_end {L cur : Addr} {us : List Value} {n : Nat} {rest own news' : List (Addr × Obj)} {m₀ m' : Str → Option Value} {av : Str} {acc : List Str} {s₁ : Shared} {h' : Heap} {tk : Nat}
    (F : Fr h₀ L h' m') (N : News h₀ L h' news') (hcm : (cur, listOf us.toArray n) ∈ news') (hrm : ∀ p ∈ rest, p ∈ news') (hom : ∀ p ∈ own, p ∈ news') (hcr : ∀ p ∈ rest, p.1 ≠ cur) (hco : ∀ p ∈ own, p.1 ≠ cur) (hor : OwnOff own (rest.map (·.1)))
    (hS : StrsAre us acc) (ha : m' av = some (.ref cur)) (hm : ∀ z, z ≠ x → z ≠ av → m' z = m₀ z) :
    InvEndG h₀ L (RedS rest x av m₀ acc) own s₁ { s₁ with heap := h', toks := tk } :=
  InvEndG.intro F N ⟨cur, us, n, rfl, hcr, hS, ha, hm⟩ (fun p hp b hb => by
    rcases List.mem_cons.mp hb with rfl | hb
    · exact hco p hp
    · exact hor p hp b hb) (fun p hp => by
    rcases List.mem_cons.mp hp with rfl | hp
    · exact hcm
    · exact hrm p hp) hom
end
theorem allLt_mem {d : Addr} : ∀ {l : List (Addr × Obj)}, AllLt d l → ∀ p ∈ l, p.1 < d
  | [], _, _, h => nomatch h
  | q :: r, h, p, hp => by
    rcases List.mem_cons.mp hp with rfl | hp
    · exact h.1
    · exact allLt_mem h.2 p hp
theorem red_end2 {h₀ : Heap} {x : Str} {L D cur : Addr} {us : List Value} {n : Nat} {q r : Addr × Obj} {rest own : List (Addr × Obj)} {m₀ m' : Str → Option Value} {av : Str} {acc : List Str} {s₁ : Shared} {h' : Heap} {tk : Nat}
    (F : Fr h₀ L h' m') (N : News h₀ L h' ((D, listOf us.toArray n) :: q :: r :: (rest ++ own))) (hlt : AllLt D (q :: r :: (rest ++ own))) (hoff : OwnOff own (cur :: rest.map (·.1)))
    (hS : StrsAre us acc) (ha : m' av = some (.ref D)) (hm : ∀ z, z ≠ x → z ≠ av → m' z = m₀ z) :
    InvEndG h₀ L (RedS rest x av m₀ acc) own s₁ { s₁ with heap := h', toks := tk } :=
  red_end F N (.head _) (fun p hp => .tail _ (.tail _ (.tail _ (List.mem_append.mpr (.inl hp))))) (fun p hp => .tail _ (.tail _ (.tail _ (List.mem_append.mpr (.inr hp)))))
    (fun p hp => Nat.ne_of_lt (allLt_mem hlt p (.tail _ (.tail _ (List.mem_append.mpr (.inl hp)))))) (fun p hp => Nat.ne_of_lt (allLt_mem hlt p (.tail _ (.tail _ (List.mem_append.mpr (.inr hp))))))
    (fun p hp b hb => hoff p hp b (.tail _ hb)) hS ha hm
theorem add_two {prog : Program} {w : World} {A : Around} {E : Value → Shared → Prop} {s : Shared} {h₀ : Heap} {L l b : Addr} {m : Str → Option Value} {news : List (Addr × Obj)} {us vs : List Value} {n n2 : Nat} {Q : Value → Shared → Prop}
    (F : Fr h₀ L s.heap m) (N : News h₀ L s.heap news) (hl : (l, listOf us.toArray n) ∈ news) (hb : (b, listOf vs.toArray n2) ∈ news) (hz : us.length + vs.length ≤ 100000)
    (h : ∀ D h', Fr h₀ L h' m → News h₀ L h' ((D, listOf (us ++ vs).toArray 0) :: news) → (∀ p ∈ news, p.1 < D) → Q (.ref D) { s with heap := h' }) :
    wpAny (model prog w) A (binaryOp .Add (.ref l) (.ref b)) Q E s :=
  add_arrays F N (its := us.toArray) (its2 := vs.toArray) ⟨_, (N _ hl).1, rfl, n, rfl⟩ ⟨_, (N _ hb).1, rfl, n2, rfl⟩ (fun h' F' N' => h _ h' F' N' fun p hp => Heap.lt_size (N p hp).1)
    (by simp only [sizeLine_eq, List.size_toArray]; omega)
/-- the next stop of the walk -/
noncomputable def nextP (p c : Str) : Str := normOf (Txt.split (p ++ (Str.ofString "/" ++ c)) (Str.ofString "/"))
noncomputable def stopStep (acc : List Str) (c : Str) : List Str := acc ++ [nextP (acc.getLastD (Str.ofString ".")) c]
noncomputable def stopsOf (ss : List Str) : List Str := ss.foldl stopStep [Str.ofString "."]
theorem stopStep_snoc {acc : List Str} {p c : Str} {cs : List Str} (h : Txt.split (p ++ (Str.ofString "/" ++ c)) (Str.ofString "/") = cs) : stopStep (acc ++ [p]) c = acc ++ [p] ++ [normOf cs] := by
  unfold stopStep nextP
  rw [List.getLastD_concat, h]
theorem if_off2 {x y : Str} {m : Str → Option Value} {u v w' : Option Value} : ∀ z, z ≠ x → z ≠ y → (fun a => if a = y then u else if a = x then v else if a = y then w' else m a) z = m z := fun z h1 h2 => by
  show (if z = y then u else if z = x then v else if z = y then w' else m z) = m z
  rw [if_neg h2, if_neg h1, if_neg h2]

theorem lines_red37 : True := by
  k_with "call ref" => (k_here; kn_here; (with_reducible show wpAny _ _ (call (Value.ref _) [Value.ref _, Value.str _ _]) _ _ _); k_dflt (refine wpAny_call ?_; refine' kla_code (binds := [(Str.ofString "line", _), (Str.ofString "step", _)]) ?k1'w ?k2'w ?k3'w ?k4'w ?k5'w ?kA'w ?kF'w ?kK'w ?k6'w ?k7'w ?k8'w ?k9'w ?kB'w ?_ ?c2'w ?c3'w ?c4'w ?c5'w; (case kA'w => exact rfl); (case kF'w => exact rfl); (case kK'w => exact rfl); (case k1'w => k_asm); (case k2'w => k_asm); (case k3'w => k_asm); (case k4'w => k_asm); (case k5'w => k_asm); (case k6'w => k_mem); (case k7'w => exact codeRec_news (by k_asm) (by k_mem) (by assumption) (by assumption)); (case k8'w => ktr_room); (case k9'w => exact rfl); (case c5'w => decide); (case kB'w => exact locs rfl); (case c2'w => exact rfl); (case c3'w => exact rfl); (case c4'w => exact rfl); k_whole; intro g''w L''w h''w FG''w F''w N''w B''w X''w T''w; (try dsimp only); (try k_lift B''w); (try k_fold)))
  k_with "binaryOp Add ref ref" => (k_here; with_reducible (refine' add_two ?kF'w ?kN'w ?km'w ?kb'w ?kz'w ?_; (case kF'w => assumption); (case kN'w => assumption); (case km'w => with_reducible_and_instances k_mem); (case kb'w => with_reducible_and_instances k_mem); (case kz'w => first | omega | (simp only [List.length_append, List.length_cons, List.length_nil]; omega)); k_whole); intro D''w h''w F''w N''w l1'w; (try k_lt l1'w); (try k_sweep))
  trivial

theorem fresh_pure38 : True := by
  w_top off
  trivial
/-! texts as lists of numbers; paths as joined atoms -/
abbrev cl (a : Str) : List Nat := a.cps.toList
theorem cl_app (a b : Str) : cl (a ++ b) = cl a ++ cl b := by
  show (a ++ b).cps.toList = _
  rw [Str.cps_append, Array.toList_append]
theorem cl_inj {a b : Str} (h : cl a = cl b) : a = b := Str.ext' (Array.toList_inj.mp h)
theorem cl_len (a : Str) : (cl a).length = a.length := Array.length_toList
theorem cl_slash : cl (Str.ofString "/") = [47] := by decide +kernel
def Free (a : Str) : Prop := 47 ∉ cl a
structure Atom (a : Str) : Prop where
  pos : 0 < a.length
  le : a.length ≤ 3
  free : Free a
abbrev jn (l : List Str) : Str := Str.join (Str.ofString "/") l
theorem cl_jn (x y : Str) (r : List Str) : cl (jn (x :: y :: r)) = cl x ++ 47 :: cl (jn (y :: r)) := by
  show cl (x ++ Str.ofString "/" ++ jn (y :: r)) = _
  rw [cl_app, cl_app, cl_slash]
  simp
theorem free_cut : ∀ {a b r r' : List Nat}, 47 ∉ a → 47 ∉ b → a ++ 47 :: r = b ++ 47 :: r' → a = b ∧ r = r'
  | [], [], _, _, _, _, h => ⟨rfl, by simpa using h⟩
  | [], y :: b, _, _, _, hb, h => by
    have e : 47 = y := by simpa using (List.cons.inj h).1
    exact absurd (e ▸ List.mem_cons_self) hb
  | x :: a, [], _, _, ha, _, h => by
    have e : x = 47 := by simpa using (List.cons.inj h).1
    exact absurd (e ▸ List.mem_cons_self) ha
  | x :: a, y :: b, _, _, ha, hb, h => by
    obtain ⟨e1, e2⟩ := List.cons.inj h
    obtain ⟨e3, e4⟩ := free_cut (fun q => ha (.tail _ q)) (fun q => hb (.tail _ q)) e2
    exact ⟨by rw [e1, e3], e4⟩
theorem free_no {a r b : List Nat} (hb : 47 ∉ b) (h : a ++ 47 :: r = b) : False := hb (h ▸ by simp)
theorem jn_inj : ∀ (l1 l2 : List Str), (∀ a ∈ l1, Free a) → (∀ a ∈ l2, Free a) → l1 ≠ [] → l2 ≠ [] → cl (jn l1) = cl (jn l2) → l1 = l2
  | [], _, _, _, h, _, _ => absurd rfl h
  | _, [], _, _, _, h, _ => absurd rfl h
  | [x], [y], _, _, _, _, h => by rw [cl_inj (a := x) (b := y) h]
  | [x], y :: z :: r, hx, _, _, _, h => by
    rw [cl_jn] at h
    exact (free_no (hx x (.head _)) h.symm).elim
  | x :: z :: r, [y], _, hy, _, _, h => by
    rw [cl_jn] at h
    exact (free_no (hy y (.head _)) h).elim
  | x :: z :: r, y :: z' :: r', hx, hy, _, _, h => by
    rw [cl_jn, cl_jn] at h
    obtain ⟨e1, e2⟩ := free_cut (hx x (.head _)) (hy y (.head _)) h
    rw [cl_inj e1, jn_inj (z :: r) (z' :: r') (fun a ha => hx a (.tail _ ha)) (fun a ha => hy a (.tail _ ha)) (by simp) (by simp) e2]
theorem jn_pos : ∀ {l : List Str}, l ≠ [] → (∀ a ∈ l, Atom a) → cl (jn l) ≠ []
  | [], h, _ => absurd rfl h
  | [x], _, ha => fun e => by
    have h1 := (ha x (.head _)).pos
    have h2 : cl x = [] := e
    rw [← cl_len, h2] at h1
    exact absurd h1 (Nat.lt_irrefl _)
  | x :: y :: r, _, _ => by rw [cl_jn]; simp
theorem slash_mk : Str.ofString "/" = ⟨#[47]⟩ := by decide +kernel
theorem split_jn {l : List Str} (hl : l ≠ []) (ha : ∀ a ∈ l, Atom a) : Txt.split (jn l) (Str.ofString "/") = l := by
  have h1 := StrLaws.join_split (jn l) (Str.ofString "/")
  have h2 : ∀ p ∈ Txt.split (jn l) (Str.ofString "/"), Free p := by
    rw [slash_mk]
    exact StrLaws.split_free _ 47
  refine jn_inj _ _ h2 (fun a h => (ha a h).free) (fun e => ?_) hl (by rw [show jn (Txt.split (jn l) (Str.ofString "/")) = jn l from h1])
  rw [e] at h1
  exact jn_pos hl ha (h1 ▸ rfl)
theorem jn_snoc (c : Str) : ∀ {ps : List Str}, ps ≠ [] → jn (ps ++ [c]) = jn ps ++ (Str.ofString "/" ++ c)
  | [], h => absurd rfl h
  | [x], _ => by
    show x ++ Str.ofString "/" ++ c = x ++ (Str.ofString "/" ++ c)
    rw [Str.append_assoc]
  | x :: y :: r, _ => by
    show x ++ Str.ofString "/" ++ jn (y :: r ++ [c]) = (x ++ Str.ofString "/" ++ jn (y :: r)) ++ (Str.ofString "/" ++ c)
    rw [jn_snoc c (ps := y :: r) (by simp), Str.append_assoc, Str.append_assoc, Str.append_assoc]
theorem jn_len : ∀ {ps : List Str}, (∀ a ∈ ps, Atom a) → (jn ps).length ≤ 4 * ps.length
  | [], _ => Nat.zero_le _
  | [x], h => by
    have := (h x (.head _)).le
    show x.length ≤ 4 * 1
    omega
  | x :: y :: r, h => by
    have h1 := jn_len (ps := y :: r) fun a ha => h a (.tail _ ha)
    have h2 := (h x (.head _)).le
    have h3 := congrArg List.length (cl_jn x y r)
    rw [cl_len, List.length_append, List.length_cons, cl_len, cl_len] at h3
    simp only [List.length_cons] at h1 ⊢
    omega
theorem no_start {c : Str} (h : Free c) : Txt.startswith c (Str.ofString "/") = false := by
  cases e : Txt.startswith c (Str.ofString "/") with
  | false => rfl
  | true =>
    unfold Txt.startswith at e
    rw [Bool.and_eq_true, StrLaws.subAt_eq] at e
    have e2 := eq_of_beq e.2
    have e3 : (Str.ofString "/").length = 1 := by decide +kernel
    rw [e3, List.drop_zero] at e2
    rw [show (Str.ofString "/").cps.toList = [47] from cl_slash] at e2
    exact absurd (List.mem_of_mem_take (e2 ▸ List.mem_singleton.mpr rfl : 47 ∈ (cl c).take 1)) h
theorem atom_first {x : Str} (ha : Atom x) : ∃ k r, cl x = k :: r ∧ k ≠ 47 := by
  have h1 := ha.pos
  have h2 := ha.free
  rw [← cl_len] at h1
  unfold Free at h2
  cases e : cl x with
  | nil => rw [e] at h1; exact absurd h1 (Nat.lt_irrefl _)
  | cons k r => rw [e] at h2; exact ⟨k, r, rfl, fun q => h2 (q ▸ List.mem_cons_self)⟩
theorem jn_first {ps : List Str} (hp : ps ≠ []) (ha : ∀ a ∈ ps, Atom a) : ∃ k r, cl (jn ps) = k :: r ∧ k ≠ 47 := by
  match ps, hp, ha with
  | [x], _, ha => exact atom_first (ha x (.head _))
  | x :: y :: r, _, ha =>
    obtain ⟨k, r', e, hk⟩ := atom_first (ha x (.head _))
    rw [cl_jn, e]
    exact ⟨k, _, rfl, hk⟩
theorem jn_last : ∀ {ps : List Str}, ps ≠ [] → (∀ a ∈ ps, Atom a) → ∃ r k, cl (jn ps) = r ++ [k] ∧ k ≠ 47
  | [], h, _ => absurd rfl h
  | [x], _, ha => by
    have h1 := (ha x (.head _)).pos
    have h2 := (ha x (.head _)).free
    rw [← cl_len] at h1
    show ∃ r k, cl x = r ++ [k] ∧ k ≠ 47
    unfold Free at h2
    have hne : cl x ≠ [] := fun q => by rw [q] at h1; exact absurd h1 (Nat.lt_irrefl _)
    exact ⟨(cl x).dropLast, (cl x).getLast hne, (List.dropLast_concat_getLast hne).symm, fun q => h2 (q ▸ List.getLast_mem hne)⟩
  | x :: y :: r, _, ha => by
    obtain ⟨r', k, e, hk⟩ := jn_last (ps := y :: r) (by simp) fun a h => ha a (.tail _ h)
    rw [cl_jn, e]
    exact ⟨cl x ++ 47 :: r', k, by simp, hk⟩
theorem no_end {ps : List Str} (hp : ps ≠ []) (ha : ∀ a ∈ ps, Atom a) : Txt.endswith (jn ps) (Str.ofString "/") = false := by
  obtain ⟨r, k, e, hk⟩ := jn_last hp ha
  cases q : Txt.endswith (jn ps) (Str.ofString "/") with
  | false => rfl
  | true =>
    unfold Txt.endswith at q
    rw [Bool.and_eq_true, StrLaws.subAt_eq] at q
    have e2 := eq_of_beq q.2
    have e3 : (Str.ofString "/").length = 1 := by decide +kernel
    have e4 : (jn ps).length = r.length + 1 := by rw [← cl_len, e]; simp
    rw [e3, e4, show (jn ps).cps.toList = r ++ [k] from e, show (Str.ofString "/").cps.toList = [47] from cl_slash] at e2
    simp at e2
    exact absurd e2 hk
theorem no_slice {ps : List Str} (hp : ps ≠ []) (ha : ∀ a ∈ ps, Atom a) : (Txt.slice (jn ps) none (some 1) != Str.ofString "/") = true := by
  obtain ⟨k, r, e, hk⟩ := jn_first hp ha
  rw [bne_iff_ne]
  intro q
  have h : Txt.slice (jn ps) none (some 1) = ⟨(((jn ps).cps.toList.drop 0).take (1 - 0 : Int).toNat).toArray⟩ := StrLaws.sliceText_to (x := jn ps) (j := 1) ⟨by decide, by rw [show (jn ps).cps.toList = k :: r from e]; simp; omega⟩
  rw [h, show (jn ps).cps.toList = k :: r from e] at q
  have q2 := congrArg cl q
  rw [cl_slash] at q2
  have q3 : [k] = [47] := q2
  exact hk (List.cons.inj q3).1

/-- paths that the walk meets: joined atoms -/
structure PathOf (p : Str) (ps : List Str) : Prop where
  is : p = jn ps
  ne : ps ≠ []
  atoms : ∀ a ∈ ps, Atom a
theorem atom_dot : Atom (Str.ofString ".") := ⟨by decide +kernel, by decide +kernel, by unfold Free; decide +kernel⟩
theorem atom_dots : Atom (Str.ofString "..") := ⟨by decide +kernel, by decide +kernel, by unfold Free; decide +kernel⟩
/-- the parts of the next stop -/
noncomputable def nextC (ps : List Str) (c : Str) : List Str := match (ps ++ [c]).foldl normStep [] with
  | [] => [Str.ofString "."]
  | q => q
theorem nextC_atoms {ps : List Str} {c : Str} (hp : ∀ a ∈ ps, Atom a) (hc : Atom c) : ∀ a ∈ nextC ps c, Atom a := by
  have h : ∀ a ∈ (ps ++ [c]).foldl normStep [], Atom a := fun a ha => by
    rcases normFold_mem _ _ _ ha with h | h
    · cases h
    · rcases List.mem_append.mp h with h | h
      · exact hp a h
      · rw [List.mem_singleton.mp h]; exact hc
  unfold nextC
  split
  · intro a ha; rw [List.mem_singleton.mp ha]; exact atom_dot
  · exact h
theorem nextC_ne (ps : List Str) (c : Str) : nextC ps c ≠ [] := by
  unfold nextC
  split
  · simp
  · assumption
theorem nextC_len (ps : List Str) (c : Str) : (nextC ps c).length ≤ ps.length + 1 := by
  have h := normFold_len (ps ++ [c]) []
  unfold nextC
  split
  · simp
  · simp at h ⊢; omega
theorem empty_app (x : Str) : Str.ofString "" ++ x = x := by
  apply cl_inj
  rw [cl_app, show cl (Str.ofString "") = [] from by decide +kernel, List.nil_append]
theorem nextP_is {p c : Str} {ps : List Str} (hp : PathOf p ps) (hc : Atom c) : PathOf (nextP p c) (nextC ps c) ∧ Txt.split (p ++ (Str.ofString "/" ++ c)) (Str.ofString "/") = ps ++ [c] := by
  have ha : ∀ a ∈ ps ++ [c], Atom a := fun a h => by
    rcases List.mem_append.mp h with h | h
    · exact hp.atoms a h
    · rw [List.mem_singleton.mp h]; exact hc
  have hs : Txt.split (p ++ (Str.ofString "/" ++ c)) (Str.ofString "/") = ps ++ [c] := by
    rw [hp.is, ← jn_snoc c hp.ne]
    exact split_jn (by simp) ha
  refine ⟨⟨?_, nextC_ne _ _, nextC_atoms hp.atoms hc⟩, hs⟩
  unfold nextP normOf
  rw [hs, empty_app]
  have hj : Txt.join (Str.ofString "/") ((ps ++ [c]).foldl normStep []) = jn ((ps ++ [c]).foldl normStep []) := StrLaws.glued_eq_join _ _
  rw [hj]
  have hna : ∀ a ∈ nextC ps c, Atom a := nextC_atoms hp.atoms hc
  unfold nextC at hna ⊢
  split
  · rename_i h0
    have e : (ps ++ [c]).foldl normStep [] = [] := by
      cases q : (ps ++ [c]).foldl normStep [] with
      | nil => rfl
      | cons x r =>
        exfalso
        rw [q] at hna h0
        have := jn_pos (l := x :: r) (by simp) hna
        rw [← cl_len] at h0
        exact this (List.length_eq_zero_iff.mp (by omega))
    rw [e]
    rfl
  · rename_i h0
    cases q : (ps ++ [c]).foldl normStep [] with
    | nil =>
      exfalso
      rw [q] at h0
      exact h0 (by decide +kernel)
    | cons x r => rfl
theorem path_facts {p c : Str} {ps : List Str} (hp : PathOf p ps) (hc : Atom c) (hl : ps.length ≤ 100) :
    0 < p.length ∧ p.length ≤ 1000 ∧ c.length ≤ 1000 ∧ Txt.startswith c (Str.ofString "/") = false ∧ Txt.endswith p (Str.ofString "/") = false ∧
    (Txt.split (p ++ (Str.ofString "/" ++ c)) (Str.ofString "/")).length ≤ 1000 ∧ 0 < (p ++ (Str.ofString "/" ++ c)).length ∧ (p ++ (Str.ofString "/" ++ c)).length ≤ 1000 ∧
    (Txt.slice (p ++ (Str.ofString "/" ++ c)) none (some 1) != Str.ofString "/") = true := by
  have hn := nextP_is hp hc
  have ha : ∀ a ∈ ps ++ [c], Atom a := fun a h => by
    rcases List.mem_append.mp h with h | h
    · exact hp.atoms a h
    · rw [List.mem_singleton.mp h]; exact hc
  have e : p ++ (Str.ofString "/" ++ c) = jn (ps ++ [c]) := by rw [hp.is, ← jn_snoc c hp.ne]
  have h1 := jn_len hp.atoms
  have h2 := jn_len ha
  have h3 := hc.le
  have h4 := jn_pos hp.ne hp.atoms
  have h5 := jn_pos (l := ps ++ [c]) (by simp) ha
  rw [← hp.is] at h1 h4
  rw [← e] at h2 h5
  rw [List.length_append, List.length_singleton] at h2
  refine ⟨?_, by omega, by omega, no_start hc.free, by rw [hp.is]; exact no_end hp.ne hp.atoms, by rw [hn.2, List.length_append, List.length_singleton]; omega, ?_, by omega, by rw [e]; exact no_slice (by simp) ha⟩
  · rw [← cl_len]; exact List.length_pos_iff.mpr h4
  · rw [← cl_len]; exact List.length_pos_iff.mpr h5

theorem fresh_fold39 : True := by
  w_top off
  trivial
theorem stopStep_jn {A ps : List Str} {p c : Str} (hp : PathOf p ps) (hc : Atom c) : stopStep (A ++ [p]) c = A ++ [p] ++ [jn (nextC ps c)] := by
  unfold stopStep
  rw [List.getLastD_concat, (nextP_is hp hc).1.is]
theorem pathOf_jn {ps : List Str} (hn : ps ≠ []) (ha : ∀ a ∈ ps, Atom a) : PathOf (jn ps) ps := ⟨rfl, hn, ha⟩
theorem fold_last : ∀ (ss ps A : List Str), ps ≠ [] → (∀ a ∈ ps, Atom a) → (∀ a ∈ ss, Atom a) →
    ∃ A' ps', ss.foldl stopStep (A ++ [jn ps]) = A' ++ [jn ps'] ∧ PathOf (jn ps') ps' ∧ ps'.length ≤ ps.length + ss.length ∧ A'.length = A.length + ss.length
  | [], ps, A, hn, ha, _ => ⟨A, ps, rfl, pathOf_jn hn ha, by simp, by simp⟩
  | c :: ss, ps, A, hn, ha, hs => by
    have hc := hs c (.head _)
    obtain ⟨A', ps', e, hp, hl, hA⟩ := fold_last ss (nextC ps c) (A ++ [jn ps]) (nextC_ne _ _) (nextC_atoms ha hc) fun a h => hs a (.tail _ h)
    have h2 := nextC_len ps c
    refine ⟨A', ps', ?_, hp, by simp only [List.length_cons]; omega, by rw [hA]; simp; omega⟩
    rw [List.foldl_cons, stopStep_jn (pathOf_jn hn ha) hc]
    exact e
theorem stops_last {ss : List Str} (hs : ∀ a ∈ ss, Atom a) : ∃ A' ps', ss.foldl stopStep [Str.ofString "."] = A' ++ [jn ps'] ∧ PathOf (jn ps') ps' ∧ ps'.length ≤ 1 + ss.length ∧ A'.length = ss.length := by
  have h := fold_last ss [Str.ofString "."] [] (by simp) (fun a h => by rw [List.mem_singleton.mp h]; exact atom_dot) hs
  obtain ⟨A', ps', e, hp, hl, hA⟩ := h
  exact ⟨A', ps', e, hp, hl, by simpa using hA⟩

theorem fresh_stops40 : True := by
  w_top off
  trivial
theorem codeHd_K {w : World} {h : Heap} (X : Frag.In (Mine.kp w.params) h) : CodeHd h 228 224 := by
  have e : ∃ o, (Mine.kp w.params).lookup 228 = some o := ⟨_, rfl⟩
  obtain ⟨o, e⟩ := e
  have e' := X 228 o e
  have e2 : (Mine.kp w.params).lookup 228 = some o := e
  cases e2
  exact ⟨_, _, _, _, _, _, _, _, _, e', rfl, rfl, rfl, rfl, rfl, rfl, rfl, rfl, by decide⟩

abbrev lamQ : Str := Str.ofString "_law_stops" ++ Str.ofString ".<locals>." ++ Str.ofString "<lambda>"
abbrev tbl (c' : Addr) : Obj := tabObj (#[] ++ #[rawInt ((176 : Nat) : Int), rawInt ((18 : Nat) : Int), Value.ref c'])
def LamOk (oc : Obj) : Prop := ∃ vs t, oc.data = .fields vs ∧ vs[1]? = some (.str lamQ t)

theorem c_stops1 (w : World) (l : Addr) (vs : List Value) (n : Nat) (ss : List Str) (hS : StrsAre vs ss) (hat : ∀ a ∈ ss, Atom a) (hsl : ss.length ≤ 90) (hl : l ≠ 224) :
    Con w 30 229 [(l, listOf vs.toArray n), (224, tabObj #[])] [.ref l] (fun h r led' => ∃ D us n' c' oc, r = .ref D ∧ StrsAre us (stopsOf ss) ∧ LamOk oc ∧ h.get? D = none ∧ h.get? c' = none ∧ c' ≠ D ∧
      (D, listOf us.toArray n') ∈ led' ∧ (c', oc) ∈ led' ∧ (l, listOf vs.toArray n) ∈ led' ∧ (224, tbl c') ∈ led') := by
  unfold Con
  k_fill
  intros
  rename_i hret
  have hC := codeHd_K (by assumption)
  (refine wpAny_call ?_; k_dflt (refine' enterL (binds := [(Str.ofString "steps", .ref l)]) ?k1 ?k2 ?k3 ?k4 ?k5 ?kA ?kF ?kK ?k6 ?k7 ?k8 ?k9 ?kB ?_ ?c2 ?c3 ?c4 ?c5; (case kA => exact rfl); (case kF => exact rfl); (case kK => first | assumption | exact rfl); (case k1 => k_asm); (case k2 => k_asm); (case k3 => k_asm); (case k4 => assumption); (case k5 => k_asm); (case k6 => k_is); (case k7 => k_is); (case k8 => ktr_room); (case k9 => first | exact BindsTo.of_eq rfl | exact binds_K (by k_in) rfl (by k_is) rfl rfl rfl); (case kB => exact locs rfl); (case c5 => decide); (case c2 => exact rfl); (case c3 => exact rfl); (case c4 => exact rfl); k_whole; intro g' L' h' kb' F' N' B' X' T' l1; (try k_lt l1); (try dsimp only); (try k_lift B'); (try k_fold)))
  have hC' := codeHd_K (by assumption)
  k_steps
  (with_reducible show wpAny _ _ (call _ [Value.ref ?rf, Value.ref _, Value.ref ?rl]) _ _ _)
  (refine wpAny_call ?_; k_dflt (refine' code_def (binds := [(Str.ofString "function", .ref ?rf), (Str.ofString "sequence", .ref l), (Str.ofString "initial", .ref ?rl)]) ?k1 ?k2 ?k3 ?k4 ?k5 ?kA ?kF ?kK ?k6 ?k7 ?k8 ?k9 ?kB ?_ ?c2 ?c3 ?c4 ?c5; (case kA => exact rfl); (case kF => exact rfl); (case kK => first | assumption | exact rfl); (case k1 => k_asm); (case k2 => k_asm); (case k3 => k_asm); (case k4 => k_asm); (case k5 => k_asm); (case k6 => k_is); (case k7 => k_is); (case k8 => ktr_room); (case k9 => first | exact BindsTo.of_eq rfl | exact binds_K (by k_in) rfl (by k_is) rfl rfl rfl); (case kB => exact locs rfl); (case c5 => decide); (case c2 => exact rfl); (case c3 => exact rfl); (case c4 => exact rfl); k_whole; intro g' L' h' FG' F' N' B' X' T'; (try dsimp only); (try k_lift B'); (try k_fold)))
  k_steps
  rename (Fr _ _ _ _) => F1
  rename (News _ _ _ _) => N1
  refine red_loop (av := Str.ofString "value") stopStep rfl F1 N1 rfl (fun _ _ _ => rfl) (by k_mem) hS (.cons _ _ .nil) (by k_all) (by k_all) ?turn ?done
  case done =>
    intro u cur us n h tk hU hcur F2 N2
    clear F1 N1
    simp only [List.forall_mem_cons, List.forall_mem_nil, and_true] at hcur
    k_steps
    dsimp only
    obtain ⟨hc1, hc2, hc3, hc4, _⟩ := hcur
    refine hret _ _ _ _ (KeepsBut.then (by assumption) (by assumption)) (by assumption) (by assumption) ⟨cur, us, n, _, _, rfl, hU, ⟨_, _, by assumption, by assumption⟩,
      fresh_of (by assumption) ?_ (News.fresh (by assumption) (List.Mem.head _)), fresh_of (by assumption) ?_ (News.fresh (by assumption) (.tail _ (.tail _ (List.Mem.head _)))), ?_, List.Mem.head _, .tail _ (.tail _ (List.Mem.head _)), .tail _ (.tail _ (.tail _ (List.Mem.head _))), .tail _ (.tail _ (.tail _ (.tail _ (List.Mem.head _))))⟩
    · intro q
      rcases List.mem_cons.mp q with q | q
      · exact hc3 q.symm
      · exact hc4 (List.mem_singleton.mp q).symm
    · rename (l < _ ∧ 224 < _) => hlt
      intro q
      rcases List.mem_cons.mp q with q | q
      · exact absurd hlt.1 (q ▸ Nat.lt_irrefl _)
      · exact absurd hlt.2 ((List.mem_singleton.mp q) ▸ Nat.lt_irrefl _)
    · exact hc2
  case turn =>
    intro i c tc us acc cur n h tk own hc hacc hU hcur hoff F2 N2
    clear F1 N1
    have hti : (ss.take i).length ≤ ss.length := by rw [List.length_take]; exact Nat.min_le_right _ _
    obtain ⟨A', ps', hA, hp, hpl, hAl⟩ := stops_last (ss := ss.take i) fun a h => hat a (List.mem_of_mem_take h)
    have hca : Atom c := hat c (List.mem_of_getElem? hc)
    rw [hA] at hacc
    obtain ⟨us', t', acc', p, rfl, e2, hS'⟩ := strs_snoc hU (by rw [hacc]; simp)
    obtain ⟨e3, e4⟩ : acc' = A' ∧ p = jn ps' := by
      have e5 := e2.symm.trans hacc
      exact ⟨(List.append_inj' e5 rfl).1, List.cons.inj (List.append_inj' e5 rfl).2 |>.1⟩
    subst e2 e3 e4
    have hul : us'.length ≤ 1000 := by have := hS'.length; omega
    obtain ⟨hx0, hx1, hy1, hs, he, hcl, hz0, hz1, hsl⟩ := path_facts hp hca (by omega)
    generalize hcs : Txt.split (jn ps' ++ (Str.ofString "/" ++ c)) (Str.ofString "/") = cs at hcl
    clear hacc hA hc
    simp only [List.cons_append, List.nil_append] at N2
    simp only [List.map_cons, List.map_nil] at hoff
    simp only [List.forall_mem_cons, List.forall_mem_nil, and_true] at hcur
    (show wpAny _ _ _ _ _ _); (try k_fold)
    k_steps
    exact red_end2 (by assumption) (by assumption) (by assumption) hoff (by rw [stopStep_snoc hcs]; exact strs_push hU _ _) rfl if_off2

theorem fresh_stops242 : True := by
  w_top off
  trivial
theorem c_stops2 (w : World) (l c' : Addr) (oc : Obj) (hoc : LamOk oc) (hcl : c' ≠ l) (hc2 : c' ≠ 224) (vs : List Value) (n : Nat) (ss : List Str) (hS : StrsAre vs ss) (hat : ∀ a ∈ ss, Atom a) (hsl : ss.length ≤ 90) (hl : l ≠ 224) :
    Con w 30 229 [(l, listOf vs.toArray n), (c', oc), (224, tbl c')] [.ref l] (fun h r led' => ∃ D us n', r = .ref D ∧ StrsAre us (stopsOf ss) ∧ h.get? D = none ∧
      (D, listOf us.toArray n') ∈ led' ∧ (c', oc) ∈ led' ∧ (l, listOf vs.toArray n) ∈ led' ∧ (224, tbl c') ∈ led') := by
  obtain ⟨vs9, t9, hoc1, hoc2⟩ := hoc
  unfold Con
  k_fill
  intros
  rename_i hret
  have hC := codeHd_K (by assumption)
  (refine wpAny_call ?_; k_dflt (refine' enterL (binds := [(Str.ofString "steps", .ref l)]) ?k1 ?k2 ?k3 ?k4 ?k5 ?kA ?kF ?kK ?k6 ?k7 ?k8 ?k9 ?kB ?_ ?c2 ?c3 ?c4 ?c5; (case kA => exact rfl); (case kF => exact rfl); (case kK => first | assumption | exact rfl); (case k1 => k_asm); (case k2 => k_asm); (case k3 => k_asm); (case k4 => assumption); (case k5 => k_asm); (case k6 => k_is); (case k7 => k_is); (case k8 => ktr_room); (case k9 => first | exact BindsTo.of_eq rfl | exact binds_K (by k_in) rfl (by k_is) rfl rfl rfl); (case kB => exact locs rfl); (case c5 => decide); (case c2 => exact rfl); (case c3 => exact rfl); (case c4 => exact rfl); k_whole; intro g' L' h' kb' F' N' B' X' T' l1; (try k_lt l1); (try dsimp only); (try k_lift B'); (try k_fold)))
  have hC' := codeHd_K (by assumption)
  k_steps
  (with_reducible show wpAny _ _ (call _ [Value.ref ?rf, Value.ref _, Value.ref ?rl]) _ _ _)
  (refine wpAny_call ?_; k_dflt (refine' code_def (binds := [(Str.ofString "function", .ref ?rf), (Str.ofString "sequence", .ref l), (Str.ofString "initial", .ref ?rl)]) ?k1 ?k2 ?k3 ?k4 ?k5 ?kA ?kF ?kK ?k6 ?k7 ?k8 ?k9 ?kB ?_ ?c2 ?c3 ?c4 ?c5; (case kA => exact rfl); (case kF => exact rfl); (case kK => first | assumption | exact rfl); (case k1 => k_asm); (case k2 => k_asm); (case k3 => k_asm); (case k4 => k_asm); (case k5 => k_asm); (case k6 => k_is); (case k7 => k_is); (case k8 => ktr_room); (case k9 => first | exact BindsTo.of_eq rfl | exact binds_K (by k_in) rfl (by k_is) rfl rfl rfl); (case kB => exact locs rfl); (case c5 => decide); (case c2 => exact rfl); (case c3 => exact rfl); (case c4 => exact rfl); k_whole; intro g' L' h' FG' F' N' B' X' T'; (try dsimp only); (try k_lift B'); (try k_fold)))
  k_steps
  rename (Fr _ _ _ _) => F1
  rename (News _ _ _ _) => N1
  refine red_loop (av := Str.ofString "value") stopStep rfl F1 N1 rfl (fun _ _ _ => rfl) (by k_mem) hS (.cons _ _ .nil) (by k_all) (by k_all) ?turn ?done
  case done =>
    intro u cur us n h tk hU hcur F2 N2
    clear F1 N1
    simp only [List.forall_mem_cons, List.forall_mem_nil, and_true] at hcur
    k_steps
    dsimp only
    obtain ⟨hc1, hc2, hc3, hc4, _⟩ := hcur
    refine hret _ _ _ _ (KeepsBut.then (by assumption) (by assumption)) (by assumption) (by assumption) ⟨cur, us, n, rfl, hU,
      fresh_of (by assumption) ?_ (News.fresh (by assumption) (List.Mem.head _)), List.Mem.head _, .tail _ (.tail _ (.tail _ (List.Mem.head _))), .tail _ (.tail _ (List.Mem.head _)), .tail _ (.tail _ (.tail _ (.tail _ (List.Mem.head _))))⟩
    intro q
    rcases List.mem_cons.mp q with q | q
    · exact hc2 q.symm
    · rcases List.mem_cons.mp q with q | q
      · exact hc3 q.symm
      · exact hc4 (List.mem_singleton.mp q).symm
  case turn =>
    intro i c tc us acc cur n h tk own hc hacc hU hcur hoff F2 N2
    clear F1 N1
    have hti : (ss.take i).length ≤ ss.length := by rw [List.length_take]; exact Nat.min_le_right _ _
    obtain ⟨A', ps', hA, hp, hpl, hAl⟩ := stops_last (ss := ss.take i) fun a h => hat a (List.mem_of_mem_take h)
    have hca : Atom c := hat c (List.mem_of_getElem? hc)
    rw [hA] at hacc
    obtain ⟨us', t', acc', p, rfl, e2, hS'⟩ := strs_snoc hU (by rw [hacc]; simp)
    obtain ⟨e3, e4⟩ : acc' = A' ∧ p = jn ps' := by
      have e5 := e2.symm.trans hacc
      exact ⟨(List.append_inj' e5 rfl).1, List.cons.inj (List.append_inj' e5 rfl).2 |>.1⟩
    subst e2 e3 e4
    have hul : us'.length ≤ 1000 := by have := hS'.length; omega
    obtain ⟨hx0, hx1, hy1, hs, he, hcl, hz0, hz1, hsl⟩ := path_facts hp hca (by omega)
    generalize hcs : Txt.split (jn ps' ++ (Str.ofString "/" ++ c)) (Str.ofString "/") = cs at hcl
    clear hacc hA hc
    simp only [List.cons_append, List.nil_append] at N2
    simp only [List.map_cons, List.map_nil] at hoff
    simp only [List.forall_mem_cons, List.forall_mem_nil, and_true] at hcur
    (show wpAny _ _ _ _ _ _); (try k_fold)
    k_steps
    exact red_end2 (by assumption) (by assumption) (by assumption) hoff (by rw [stopStep_snoc hcs]; exact strs_push hU _ _) rfl if_off2

theorem fresh_pile50 : True := by
  w_top off
  trivial
/-! the accumulator: an object of a class over list -/
abbrev pileObj (d : Addr) (its : List Value) (n : Nat) : Obj := { cls := .ref 101, dict := some d, data := .seq its.toArray n }
abbrev pileDict (w : World) (t u : Tok) : Obj := dictOf [⟨PyData.keyHash w.params (Str.ofString "_initial_size"), .str (Str.ofString "_initial_size") t, .int 0 u⟩] 1
theorem instAt_pile {h₀ h : Heap} {L x d : Addr} {news : List (Addr × Obj)} {od : Obj} {its : List Value} {n : Nat} (N : News h₀ L h news) (h1 : (x, pileObj d its n) ∈ news) (h2 : (d, od) ∈ news) :
    InstAt h x (pileObj d its n) 101 (some od) := ⟨(N _ h1).1, rfl, rfl, (N _ h2).1⟩
theorem sub_pile (w : World) : subIn (Mine.kp w.params) (.ref 101) (.type "list") = some true := by kernel_rfl
theorem ga_pile (w : World) : findIn (Mine.kp w.params) (.ref 101) (Str.ofString "__getattribute__") = some (some (.builtin "list.__getattribute__")) := by kernel_rfl
theorem gt_pile (w : World) : findIn (Mine.kp w.params) (.ref 101) (Str.ofString "__getattr__") = some none := by kernel_rfl
theorem canon_list_ga : (Manifest.canonical "list.__getattribute__" != "object.__getattribute__") = false := by decide +kernel

section
variable {prog : Program} {w : World} {A : Around} {E : Value → Shared → Prop} {s : Shared} {h₀ : Heap} {L x d : Addr} {m : Str → Option Value} {news : List (Addr × Obj)} {its : List Value} {n : Nat} {od : Obj}
theorem pile_type {M : Model} {h : Heap} (ho : h.get? x = some (pileObj d its n)) : Looks M h (typeOf (.ref x)) (.ref 101) := (Looks.ld ho).andThen .now
theorem pile_isList {M : Model} {h : Heap} (X : Frag.In (Mine.kp w.params) h) (ho : h.get? x = some (pileObj d its n)) : Looks M h (isInstance (.ref x) (.type "list")) true := (pile_type ho).andThen (looks_subIn X (sub_pile w))
theorem check_method {M : Model} {i owner nm : String} {self : Value} {rest : List Value} {Q : Unit → Shared → Prop}
    (hk : builtinKind i = some .method ∨ builtinKind i = some .slot) (hs : splitId i = some (owner, nm)) (hi : Looks M s.heap (isInstance self (.type owner)) true) (ha : argsOk i ⟨self :: rest, []⟩) (q : Q () s) :
    wpAny M A (checkBuiltinCall i ⟨self :: rest, []⟩) Q E s := by
  rcases hk with hk | hk
  · simp only [checkBuiltinCall, hk, hs]
    refine wpAny_bind (hi.here ?_)
    simp only [Bool.not_true, Bool.false_eq_true, if_false]
    cases hsig : Manifest.signature? i with
    | none => exact wpAny_pure q
    | some sig =>
      simp only [argsOk, hsig] at ha
      have h2 : Bind.checkArgs i sig ⟨self :: rest, []⟩ = pure () := ha
      show wpAny M A (Bind.checkArgs i sig ⟨self :: rest, []⟩) Q E s
      rw [h2]; exact wpAny_pure q
  · exact check_slot hk hs hi ha q
theorem pile_call {id nm : String} {B : Builtin} {rest : List Value} {Q : Value → Shared → Prop} (hk : builtinKind id = some .method ∨ builtinKind id = some .slot) (hs : splitId id = some ("list", nm)) (hp : plainId id = true) (hb : entryFor table id = some B)
    (ha : argsOk id ⟨.ref x :: rest, []⟩) (X : Frag.In (Mine.kp w.params) s.heap) (ho : s.heap.get? x = some (pileObj d its n))
    (hc : wpAny (model prog w) A.in1 (B ⟨.ref x :: rest, []⟩) (fun fin s' => ∃ v, fin = .done (.ret v) ∧ Q v s') E s) : wpAny (model prog w) A (call (.builtin id) (.ref x :: rest)) Q E s := by
  refine wpAny_call (codeAny_call_builtin hp hb (check_method hk hs (pile_isList X ho) ha (wpAny_mono hc (fun fin s' h' => ?_) fun _ _ h' => h')))
  obtain ⟨v, rfl, hv⟩ := h'; exact hv
theorem pile_append {v : Value} {news' : List (Addr × Obj)} {Q : Value → Shared → Prop} (F : Fr h₀ L s.heap m) (X : Frag.In (Mine.kp w.params) h₀) (N : News h₀ L s.heap news) (U : Upd x (pileObj d its n) (pileObj d (its ++ [v]) (n + 1)) news news') (hz : its.length ≤ 100000)
    (h : ∀ h', Fr h₀ L h' m → News h₀ L h' news' → Q .none { s with heap := h' }) : wpAny (model prog w) A (call (.builtin "list.append") [.ref x, v]) Q E s := by
  obtain ⟨pre, post, rfl, rfl, a, b⟩ := U.split
  have z := N (x, pileObj d its n) (List.mem_append.mpr (.inr (.head _)))
  refine pile_call (.inl (by decide +kernel)) (nm := "append") (by decide +kernel) (by decide +kernel) entry_list_append (args_list_append _ _) (X.keeps F.keep) z.1 ?_
  show wpAny _ _ (updateSeq x (·.push v) >>= fun _ => ret .none) _ _ s
  have e : Obj.mapSeq (·.push v) (pileObj d its n) = pileObj d (its ++ [v]) (n + 1) := by
    show (⟨.ref 101, some d, .seq (its.toArray.push v) (if (its.toArray.push v).size == its.toArray.size then n else n + 1), #[]⟩ : Obj) = _
    rw [if_neg (by simp), List.push_toArray]
  refine wpAny_bind (wpAny_updateSeq z.1 rfl (wpAny_pure ⟨.none, rfl, ?_⟩) (by simp; rw [sizeLine_eq]; omega))
  obtain ⟨U1, U2⟩ := news_upd (f := Obj.mapSeq (·.push v)) F N a b e rfl
  exact h _ U1 U2
theorem pile_getMethod {M : Model} {name : Str} {fv tf : Value} {es : List DictEntry} {k : Nat} {pl : Sem Bool} {Q : Value × List Value → Shared → Prop} (F : Fr h₀ L s.heap m) (X₀ : Frag.In (Mine.kp w.params) h₀) (N : News h₀ L s.heap news) (h1 : (x, pileObj d its n) ∈ news) (h2 : (d, dictOf es k) ∈ news)
    (hs : findIn (Mine.kp w.params) (.ref 101) name = some (some fv)) (ht : typeIn (Mine.kp w.params) fv = some tf) (htf : (tf != .type "function" && tf != .type "method_descriptor" && tf != .type "wrapper_descriptor") = false) (hl : getL name es = some none)
    (h : Q (fv, [.ref x]) s) : wpAny M A (getMethod (.ref x) name pl) Q E s := by
  have X := X₀.keeps F.keep
  have ho := (N _ h1).1
  have hd := (N _ h2).1
  unfold getMethod specialOf
  refine wpAny_bind (wpAny_bind ((pile_type ho).here ((looks_findIn X (ga_pile w)).here ?_)))
  dsimp only
  rw [canon_list_ga, if_neg Bool.false_ne_true]
  refine wpAny_bind (wpAny_bind ((pile_type ho).here ((looks_findIn X (gt_pile w)).here ?_)))
  refine wpAny_bind (wpAny_bind ((pile_type ho).here ((looks_findIn X hs).here (wpAny_bind ((looks_typeIn X ht).here ?_)))))
  rw [if_neg (by rw [htf]; exact Bool.false_ne_true)]
  refine wpAny_bind (wpAny_loadPart ho ?_)
  refine wpAny_bind (wpAny_bind (wpAny_loadPart hd ?_))
  rw [nsLook_of (show lookIn name (dictOf es k) = some none from hl)]
  exact wpAny_pure (wpAny_bind (wpAny_rule (wpAny_pure h)))
end

local macro_rules | `(tactic| k_inst) => `(tactic| (refine' instAt_pile ?N ?h1 ?h2; (case N => k_asm); (case h1 => k_mem); (case h2 => k_mem)))
theorem lines_pile51 : True := by
  k_with "getMethod ref" => (k_here; k_dflt (refine' pile_getMethod ?kF'w ?kX'w ?kN'w ?km'w ?kd'w ?ks'w ?kt'w ?ke'w ?kg'w ?_; (case kF'w => k_asm); (case kX'w => k_asm); (case kN'w => k_asm); (case km'w => with_reducible_and_instances k_mem); (case kd'w => with_reducible_and_instances k_mem); (case ks'w => k_is); (case kt'w => k_is); (case ke'w => decide +kernel); (case kg'w => k_get); k_whole))
  k_with "call builtin:list.append" => (k_here; (with_reducible show wpAny _ _ (call (Value.builtin "list.append") [Value.ref _, _]) _ _ _); with_reducible (refine' pile_append ?kF'w ?kX'w ?kN'w ?kU'w ?kz'w ?_; (case kF'w => assumption); (case kX'w => assumption); (case kN'w => assumption); (case kU'w => with_reducible_and_instances k_upd); (case kz'w => omega); k_whole); intro h''w F''w N''w; (try k_sweep))
  trivial

theorem fresh_push52 : True := by
  w_top off
  trivial
theorem c_push (w : World) (x d : Addr) (its : List Value) (n : Nat) (t u : Tok) (y c : Str) (ty tc : Tok) (hz : its.length ≤ 1000) (hxd : @Ne Nat x d) :
    Con w 10 45 [(x, pileObj d its n), (d, pileDict w t u)] [.ref x, .str y ty, .str c tc] (fun h r led' => ∃ T, r = .none ∧ h.get? T = none ∧ (x, pileObj d (its ++ [.ref T]) (n + 1)) ∈ led' ∧ (d, pileDict w t u) ∈ led' ∧ (T, ({ cls := .type "tuple", data := .seq #[.str y ty, .str c tc] } : Obj)) ∈ led') := by
  unfold Con
  k_fill
  intros
  rename_i hret
  (refine wpAny_call ?_; k_dflt (refine' enterL (binds := [(Str.ofString "self", .ref x), (Str.ofString "fws", .str y ty), (Str.ofString "string", .str c tc)]) ?k1 ?k2 ?k3 ?k4 ?k5 ?kA ?kF ?kK ?k6 ?k7 ?k8 ?k9 ?kB ?_ ?c2 ?c3 ?c4 ?c5; (case kA => exact rfl); (case kF => exact rfl); (case kK => first | assumption | exact rfl); (case k1 => k_asm); (case k2 => k_asm); (case k3 => k_asm); (case k4 => assumption); (case k5 => k_asm); (case k6 => k_is); (case k7 => k_is); (case k8 => ktr_room); (case k9 => first | exact BindsTo.of_eq rfl | exact binds_K (by k_in) rfl (by k_is) rfl rfl rfl); (case kB => exact locs rfl); (case c5 => decide); (case c2 => exact rfl); (case c3 => exact rfl); (case c4 => exact rfl); k_whole; intro g' L' h' kb' F' N' B' X' T' l1; (try k_lt l1); (try dsimp only); (try k_lift B'); (try k_fold)))
  k_steps
  dsimp only
  rename (x < _ ∧ d < _) => hlt
  refine hret _ _ _ _ (KeepsBut.then (by assumption) (by assumption)) (by assumption) (by assumption) ⟨_, rfl, fresh_of (by assumption) ?_ (News.fresh (by assumption) (List.Mem.head _)), .tail _ (.head _), .tail _ (.tail _ (.head _)), .head _⟩
  intro q
  rcases List.mem_cons.mp q with q | q
  · exact absurd hlt.1 (q ▸ Nat.lt_irrefl _)
  · exact absurd hlt.2 ((List.mem_singleton.mp q) ▸ Nat.lt_irrefl _)

theorem fresh_super54 : True := by
  w_top off
  trivial
theorem enterS {prog : Program} {w : World} {A₀ A : Around} {s : Shared} {base h₀ : Heap} {outer : List Env} {L : Addr} {m mg mb : Str → Option Value} {env : Env} {news : List (Addr × Obj)} {K : Frag} {p : Program} {loose : List Str} {mean : ExcName → Option Value}
    {R : Result → Shared → Prop} {name qual : Str} {params : Arguments} {body : List Stmt} {scope : Scope} {dV kV doc pm cdv ct oc : Value} {an od : Option Addr} {osl : Array (Option Value)} {f cc : Addr} {args : Args} {binds : List (Str × Value)}
    (B : Below A₀ base outer h₀) (F : Fr h₀ L s.heap m) (X₀ : K.In h₀) (N : News h₀ L s.heap news) (T : Top p loose mean mg mb h₀) (hA : A.frames = some (env :: outer)) (hf : env.frame = some L) (hke : env.scope.kind = .function)
    (ho : K.lookup f = some ⟨oc, od, .func (ksFn name qual params body scope dV kV doc pm an cdv ct cc), osl⟩) (hcd : codeIn K cdv qual = true) (hroom : A.depth < recursionLimit)
    (hbind : BindsTo s (ksFn name qual params body scope dV kV doc pm an cdv ct cc) args binds) (hloc : ∀ y ∈ binds, scope.names.lookup y.1 = some .local)
    (h : ∀ g L' h₁, KeepsBut (news.map (·.1)) s.heap g → Fr g L' h₁ (fun y => binds.reverse.lookup y) → News g L' h₁ news → Below A base (env :: outer) g → K.In g → Top p loose mean mg mb g → (∀ p ∈ news, p.1 < L') →
      _root_.PySem.wpAt (model prog w) (A.deeper (ksEnv qual scope L' f cdv cc)) (.func body (ksEnv qual scope L' f cdv cc)) (execs body (ksEnv qual scope L' f cdv cc))
        (fun fl s' => LeaveK h₀ L m g (BackL g R) (match fl with | .ret v => v | _ => .none) s')
        (fun e s' => wpAny (model prog w) (A.deeper (ksEnv qual scope L' f cdv cc)) (leaving (ksEnv qual scope L' f cdv cc) e) (fun _ s'' => R (.error e) s'') (fun e' s'' => R (.error e') s'') s')
        { s with heap := h₁, toks := s.toks + binds.length })
    (hco : scope.isCoroutine = false) (hgen : scope.isGenerator = false) (hk : scope.kind = .function) (hcell : ∀ x ∈ scope.names, x.2 ≠ .cell) : codeAny (model prog w) A (.call (.ref f) args) R s := by
  obtain ⟨FG, BG, st, lv⟩ := groundX (R := BackL (hideAll s.heap (news.map (·.1))) R) B F N hA hf hke
  refine ks_codeAny_call_defAt (fd := ksFn name qual params body scope dV kV doc pm an cdv ct cc) (body := body) (binds := binds) hroom ((X₀.keeps F.keep) _ _ ho) rfl (T.nolimit.keeps F.keep) (codeRec_of (X₀.keeps F.keep) hcd) rfl hbind hcell hloc (fun h₁ hns hk₁ => ?_) hco hgen hk
  refine ks_wpAt_mono (h _ s.heap.objs.size h₁ (fun b o hb e => hideAll_get _ e hb) ⟨hns, fun b o e => hk₁ b o (of_hideAll _ e), Nat.le_of_eq (hideAll_size _ _)⟩
    (fun p hp => ⟨hk₁ _ _ (N p hp).1, Nat.ne_of_lt (Heap.lt_size (N p hp).1), hideAll_none _ (List.mem_map_of_mem hp)⟩) BG (X₀.keeps st) (T.keeps st) (fun p hp => Heap.lt_size (N p hp).1)) (fun fl s' hl => lv _ _ hl ?_) fun _ _ y => y
  obtain ⟨_, _, _, F', _, _⟩ := hl
  exact F'.keep

/-! a method of list's, met through super() -/
abbrev boundObj (kind id : String) (x : Addr) : Obj := { cls := .type kind, data := .fields #[.builtin id, .ref x] }
theorem slot_md_get : Slot "method_descriptor" "__get__" "method_descriptor.__get__" := .of (owner := "method_descriptor") (n := "__get__") (by rw [typeLookup_type, builtinLookup_eq_fast]; kernel_rfl) (by decide +kernel) (by decide +kernel) (by decide +kernel) (.inl (by decide +kernel)) (by rw [isSubtype_type]; kernel_rfl)
theorem slot_wd_get : Slot "wrapper_descriptor" "__get__" "wrapper_descriptor.__get__" := .of (owner := "wrapper_descriptor") (n := "__get__") (by rw [typeLookup_type, builtinLookup_eq_fast]; kernel_rfl) (by decide +kernel) (by decide +kernel) (by decide +kernel) (.inl (by decide +kernel)) (by rw [isSubtype_type]; kernel_rfl)
theorem entry_md_get : entryFor table "method_descriptor.__get__" = some Builtin.«method_descriptor.__get__» := entryFor_of_tree (by kernel_rfl)
theorem entry_wd_get : entryFor table "wrapper_descriptor.__get__" = some Builtin.«wrapper_descriptor.__get__» := entryFor_of_tree (by kernel_rfl)
theorem args_md_get (a b c : Value) : argsOk "method_descriptor.__get__" ⟨[a, b, c], []⟩ := by unfold argsOk; kernel_rfl
theorem args_wd_get (a b c : Value) : argsOk "wrapper_descriptor.__get__" ⟨[a, b, c], []⟩ := by unfold argsOk; kernel_rfl
theorem type_lpop : typeOf (.builtin "list.pop") = pure (.type "method_descriptor") := PySem.F.type_list_pop
theorem type_llen : typeOf (.builtin "list.__len__") = pure (.type "wrapper_descriptor") := by show builtinType _ = _; rw [builtinType_eq_fast]; kernel_rfl
theorem type_linit : typeOf (.builtin "list.__init__") = pure (.type "wrapper_descriptor") := by show builtinType _ = _; rw [builtinType_eq_fast]; kernel_rfl

section
variable {prog : Program} {w : World} {A : Around} {E : Value → Shared → Prop} {h : Heap} {g : Array GenState} {dr : Drawn} {t : Nat} {os : OsState} {x d : Addr} {its : List Value} {n : Nat}
theorem wd_get {id : String} {tk : Nat} {Q : Fin → Shared → Prop} (X : Frag.In (Mine.kp w.params) h) (ho : h.get? x = some (pileObj d its n)) (e : ".".intercalate (id.cutAt '.').dropLast = "list")
    (hq : Q (.done (.ret (.ref h.objs.size))) ⟨h.push (boundObj "method-wrapper" id x), g, dr, tk, os⟩) :
    wpAny (model prog w) A (Builtin.«wrapper_descriptor.__get__» ⟨[.builtin id, .ref x, .ref 101], []⟩) Q E ⟨h, g, dr, tk, os⟩ := by
  have L1 : Looks (model prog w) h (isSubtype (.ref 101) (.type "list")) true := looks_subIn X (sub_pile w)
  unfold Builtin.«wrapper_descriptor.__get__»
  repeat (first | (with_reducible refine Looks.at L1 ?_) | wp_step | (rw [e]) | dsimp only)
  all_goals exact hq
theorem md_get {id : String} {tk : Nat} {Q : Fin → Shared → Prop} (X : Frag.In (Mine.kp w.params) h) (ho : h.get? x = some (pileObj d its n)) (e : ".".intercalate (id.cutAt '.').dropLast = "list") (e2 : Manifest.toldItsClass.contains id = false)
    (hq : Q (.done (.ret (.ref h.objs.size))) ⟨h.push (boundObj "builtin_function_or_method" id x), g, dr, tk, os⟩) :
    wpAny (model prog w) A (Builtin.«method_descriptor.__get__» ⟨[.builtin id, .ref x, .ref 101], []⟩) Q E ⟨h, g, dr, tk, os⟩ := by
  have L1 : Looks (model prog w) h (isSubtype (.ref 101) (.type "list")) true := looks_subIn X (sub_pile w)
  unfold Builtin.«method_descriptor.__get__»
  repeat (first | (with_reducible refine Looks.at L1 ?_) | (rw [if_neg (by rw [e2]; exact Bool.false_ne_true)]) | wp_step | (rw [e]) | dsimp only)
  all_goals exact hq
end
section
variable {prog : Program} {w : World} {E : Value → Shared → Prop} {h : Heap} {g : Array GenState} {dr : Drawn} {t : Nat} {os : OsState} {x d so : Addr} {its : List Value} {n : Nat} {id T gid kind : String} {name : Str}
/-- asking a built-in's __get__ gives the bound object -/
def Binds (prog : Program) (w : World) (h : Heap) (x : Addr) (id gid kind : String) : Prop :=
  ∀ (A : Around) (g : Array GenState) (dr : Drawn) (t : Nat) (os : OsState) (Q E : Value → Shared → Prop), Q (.ref h.objs.size) ⟨h.push (boundObj kind id x), g, dr, t, os⟩ → wpAny (model prog w) A (call (.builtin gid) [.builtin id, .ref x, .ref 101]) Q E ⟨h, g, dr, t, os⟩
theorem builtin_typeIs {s : Shared} {v : Value} {T : String} (h : typeOf v = pure (.type T)) (hv : ∀ a, v ≠ .ref a) : s.TypeIs v T := by
  cases v with
  | ref a => exact absurd rfl (hv a)
  | _ => exact h
theorem binds_wd (X : Frag.In (Mine.kp w.params) h) (ho : h.get? x = some (pileObj d its n)) (e : ".".intercalate (id.cutAt '.').dropLast = "list") (hty : typeOf (.builtin id) = pure (.type "wrapper_descriptor")) : Binds prog w h x id "wrapper_descriptor.__get__" "method-wrapper" :=
  fun _ _ _ _ _ _ _ hq => wpAny_call_entry slot_wd_get (builtin_typeIs hty (by simp)) entry_wd_get (wd_get X ho e ⟨_, rfl, hq⟩) (args_wd_get _ _ _)
theorem binds_md (X : Frag.In (Mine.kp w.params) h) (ho : h.get? x = some (pileObj d its n)) (e : ".".intercalate (id.cutAt '.').dropLast = "list") (e2 : Manifest.toldItsClass.contains id = false) (hty : typeOf (.builtin id) = pure (.type "method_descriptor")) : Binds prog w h x id "method_descriptor.__get__" "builtin_function_or_method" :=
  fun _ _ _ _ _ _ _ hq => wpAny_call_entry slot_md_get (builtin_typeIs hty (by simp)) entry_md_get (md_get X ho e e2 ⟨_, rfl, hq⟩) (args_md_get _ _ _)

theorem super_ga_b {A : Around} {D : Addr} {l₀ l : List Value} {K : Frag} {tk : Tok} {Q : Fin → Shared → Prop}
    (hso : h.get? so = some { cls := .type "super", dict := none, data := .fields #[.ref D, .ref x, .ref 101], slots := #[] }) (hno : Looks (model prog w) h (opaqueClassAbove (.ref 101)) none)
    (hC : Looks (model prog w) h (mroOf (.ref 101)) l₀) (hl : (l₀.dropWhile (· != .ref D)).drop 1 = l) (X : K.In h)
    (hf : alongIn K name l = some (some (.builtin id))) (hty : typeOf (.builtin id) = pure (.type T)) (hgt : typeLookup (.type T) (Str.ofString "__get__") = pure (some (.builtin gid))) (hb : Binds prog w h x id gid kind) (hxC : x ≠ 101) (hn : (name == ("__class__" : Str)) = false)
    (hq : Q (.done (.ret (.ref h.objs.size))) ⟨h.push (boundObj kind id x), g, dr, t, os⟩) :
    wpAny (model prog w) A (Builtin.«super.__getattribute__» ⟨[.ref so, .str name tk], []⟩) Q E ⟨h, g, dr, t, os⟩ := by
  unfold Binds at hb
  have hne : (Value.ref x == Value.ref 101) = false := by simp [hxC]
  have hdt : ({ cls := .type "super", dict := none, data := .fields #[.ref D, .ref x, .ref 101], slots := #[] } : Obj).data = .fields #[.ref D, .ref x, .ref 101] := rfl
  have f0 : (#[.ref D, .ref x, .ref 101] : Array Value)[0]? = some (.ref D) := rfl
  have f1 : (#[.ref D, .ref x, .ref 101] : Array Value)[1]? = some (.ref x) := rfl
  have f2 : (#[.ref D, .ref x, .ref 101] : Array Value)[2]? = some (.ref 101) := rfl
  unfold Builtin.«super.__getattribute__»
  repeat (first
    | (with_reducible refine wpAny_field hso hdt f0 ?_) | (with_reducible refine wpAny_field hso hdt f1 ?_) | (with_reducible refine wpAny_field hso hdt f2 ?_)
    | (with_reducible refine ks_wpAny_notOpaque hno ?_)
    | (with_reducible refine Looks.at hC ?_; rw [hl])
    | (refine ks_forIn_along X (fun _ _ => rfl) rfl ?_ hf)
    | (with_reducible refine wpAny_of_eq hty ?_) | (with_reducible refine wpAny_of_eq hgt ?_)
    | (with_reducible refine hb _ _ _ _ _ _ _ ?_)
    | (simp only [hn, hne, Bool.or_false, Bool.false_eq_true, if_false])
    | wp_step
    | dsimp only)
  all_goals exact hq

theorem super_method_b {A : Around} {D : Addr} {l₀ l : List Value} {K : Frag} {pl : Sem Bool} {Q : Value × List Value → Shared → Prop}
    (hso : h.get? so = some { cls := .type "super", dict := none, data := .fields #[.ref D, .ref x, .ref 101], slots := #[] }) (hno : Looks (model prog w) h (opaqueClassAbove (.ref 101)) none)
    (hC : Looks (model prog w) h (mroOf (.ref 101)) l₀) (hl : (l₀.dropWhile (· != .ref D)).drop 1 = l) (X : K.In h)
    (hf : alongIn K name l = some (some (.builtin id))) (hty : typeOf (.builtin id) = pure (.type T)) (hgt : typeLookup (.type T) (Str.ofString "__get__") = pure (some (.builtin gid))) (hb : Binds prog w h x id gid kind) (hxC : x ≠ 101) (hn : (name == ("__class__" : Str)) = false)
    (hq : Q (.ref h.objs.size, []) ⟨h.push (boundObj kind id x), g, dr, t + 1, os⟩) :
    wpAny (model prog w) A (getMethod (.ref so) name pl) Q E ⟨h, g, dr, t, os⟩ := by
  have hlk := F.ks_slot_super_ga.lookup
  have hcan := F.ks_canon_super_ga
  have hT : ∀ t', (⟨h, g, dr, t', os⟩ : Shared).TypeIs (.ref so) "super" := fun _ => ⟨_, hso, rfl⟩
  unfold getMethod
  refine wpAny_bind (wpAny_specialOf (hT _) hlk ?_)
  show wpAny _ _ (if (Manifest.canonical "super.__getattribute__" != "object.__getattribute__") = true then _ else _) _ _ _
  rw [if_pos hcan]
  unfold getAttr getAttrBy
  refine wpAny_bind (wpAny_bind (wpAny_mkText (wpAny_holding (wpAny_bind (wpAny_typeOf (hT _) (wpAny_bind (wpAny_of_eq hlk ?_)))))))
  show wpAny _ _ (getAttrByItsOwn (.ref so) (.str name t) (.type "super") (.builtin "super.__getattribute__") true false) _ _ _
  unfold getAttrByItsOwn hookBefore callGetattribute boundAndCalled
  refine wpAny_bind (wpAny_of_eq (show (if onTheHeap (.type "super") then typeLookup (.type "super") "__getattr__" else pure none) = pure none from rfl) ?_)
  refine wpAny_bind (wpAny_attempt (wpAny_holding ?_))
  show wpAny _ _ (bindSpecial (.builtin "super.__getattribute__") (.ref so) >>= _) _ _ _
  refine wpAny_bind (wpAny_of_eq (F.ks_slot_super_ga.bind _) ?_)
  refine wpAny_mono (Q := fun v s' => v = .ref h.objs.size ∧ s' = ⟨h.push (boundObj kind id x), g, dr, t + 1, os⟩) (E := fun _ _ => False)
    (wpAny_call_entry F.ks_slot_super_ga (hT _) F.ks_entry_super_ga (super_ga_b hso hno hC hl X hf hty hgt hb hxC hn ⟨_, rfl, rfl, rfl⟩) (F.ks_gaArgs_super _ _)) (fun v s' hv => ?_) fun _ _ z => z.elim
  obtain ⟨rfl, rfl⟩ := hv
  exact wpAny_pure (wpAny_pure hq)
end

theorem fresh_bound55 : True := by
  w_top off
  trivial
section
variable {prog : Program} {w : World} {A : Around} {E : Value → Shared → Prop} {s : Shared} {h₀ : Heap} {L x d so q : Addr} {m : Str → Option Value} {news : List (Addr × Obj)} {its : List Value} {n : Nat} {id T gid kind : String} {name : Str} {od : Obj}
theorem pile_superMethod {pl : Sem Bool} {Q : Value × List Value → Shared → Prop} (F : Fr h₀ L s.heap m) (X₀ : Frag.In (Mine.kp w.params) h₀) (N : News h₀ L s.heap news) (hso : (so, ks_superObj 101 x 101) ∈ news) (h1 : (x, pileObj d its n) ∈ news) (h2 : (d, od) ∈ news)
    (ho : nsIn (Mine.kp w.params) cStatics "thirdparty.any" = some none) (hm : ks_superIn (Mine.kp w.params) 101 101 name = some (some (.builtin id)))
    (hty : typeOf (.builtin id) = pure (.type T)) (hgt : typeLookup (.type T) (Str.ofString "__get__") = pure (some (.builtin gid))) (hb : ∀ h, Frag.In (Mine.kp w.params) h → h.get? x = some (pileObj d its n) → Binds prog w h x id gid kind) (hn : (name == ("__class__" : Str)) = false)
    (h : ∀ q h', Fr h₀ L h' m → News h₀ L h' ((q, boundObj kind id x) :: news) → (∀ p ∈ news, p.1 < q) → Q (.ref q, []) { s with heap := h', toks := s.toks + 1 }) : wpAny (model prog w) A (getMethod (.ref so) name pl) Q E s := by
  have X := X₀.keeps F.keep
  have hx := (N _ h1).1
  have I := instAt_pile N h1 h2
  obtain ⟨hh, g, dr, t, os⟩ := s
  cases hc : clsIn (Mine.kp w.params) 101 with
  | none => unfold ks_superIn at hm; rw [hc] at hm; cases hm
  | some cd =>
    unfold ks_superIn at hm
    rw [hc] at hm
    refine super_method_b (N _ hso).1 (looks_opaque X ho) (l₀ := cd.mro) ?_ rfl X hm hty hgt (hb _ X hx) (ks_ne X I hc) hn ?_
    · exact fun A Q E s k q => wpAny_bind ((looks_clsIn X hc) A _ E s k (wpAny_pure q))
    · obtain ⟨F', N', l'⟩ := ks_newsPush (s := ⟨hh, g, dr, t, os⟩) (o := boundObj kind id x) F N rfl (Heap.get?_push_at rfl rfl) (fun b o e => Heap.get?_push_of_some _ e)
      exact h _ _ F' N' l'
end

theorem fresh_bcall56 : True := by
  w_top off
  trivial
section
variable {prog : Program} {w : World} {A : Around} {E : Value → Shared → Prop} {s : Shared} {h₀ : Heap} {L x d so q : Addr} {m : Str → Option Value} {news : List (Addr × Obj)} {its : List Value} {n : Nat} {id T gid kind : String} {name : Str} {od : Obj}
/-- calling a bound built-in of the pile -/
theorem bound_call {kind id : String} {B : Builtin} {rest : List Value} {Q : Value → Shared → Prop} (hq : s.heap.get? q = some (boundObj kind id x)) (hk : (Value.type kind == Value.type "method" || Value.type kind == Value.type "builtin_function_or_method" || Value.type kind == Value.type "method-wrapper") = true) (hk2 : (Value.type kind != Value.type "method") = true)
    (hb : entryFor table id = some B) (hqt : (Code.builtin id ⟨.ref x :: rest, []⟩).quiet = true) (hc : ∀ {Q' : Unit → Shared → Prop} {E' : Value → Shared → Prop} {A' : Around}, Q' () s → wpAny (model prog w) A' (checkBoundCall id ⟨.ref x :: rest, []⟩) Q' E' s)
    (h : ∀ A', wpAny (model prog w) A' (B ⟨.ref x :: rest, []⟩) (fun fin s' => ∃ v, fin = .done (.ret v) ∧ Q v s') E s) : wpAny (model prog w) A (call (.ref q) rest) Q E s := by
  refine wpAny_call (codeAny_of_tree ?_)
  show wpAny _ A.in1 (callAny (.ref q) ⟨rest, []⟩) _ _ s
  simp only [callAny]
  refine wpAny_bind (wpAny_load hq ?_)
  simp only [hk, if_true]
  show wpAny _ _ (if (Value.type kind != Value.type "method") = true then _ else _) _ _ _
  rw [if_pos hk2]
  refine wpAny_bind (hc ?_)
  refine wpAny_bind (wpAny_pure (wpAny_pure ?_))
  refine ⟨hqt, codeAny_builtin hb (wpAny_mono (h _) (fun fin s' h' => ?_) fun _ _ h' => h')⟩
  obtain ⟨v, rfl, hv⟩ := h'; exact hv
theorem check_slotB {id : String} (x : Addr) (e : ∀ x, checkBoundCall id ⟨[.ref x], []⟩ = pure ()) {s : Shared} {Q' : Unit → Shared → Prop} {E' : Value → Shared → Prop} {A' : Around} (h : Q' () s) : wpAny (model prog w) A' (checkBoundCall id ⟨[.ref x], []⟩) Q' E' s := by rw [e]; exact wpAny_pure h
theorem chk_len (x : Addr) : checkBoundCall "list.__len__" ⟨[.ref x], []⟩ = pure () := by kernel_rfl
theorem chk_init (x : Addr) : checkBoundCall "list.__init__" ⟨[.ref x], []⟩ = pure () := by kernel_rfl
theorem pile_blen {Q : Value → Shared → Prop} (N : News h₀ L s.heap news) (hm : (q, boundObj "method-wrapper" "list.__len__" x) ∈ news) (h1 : (x, pileObj d its n) ∈ news)
    (h : Q (.int its.length s.toks) { s with toks := s.toks + 1 }) : wpAny (model prog w) A (call (.ref q) []) Q E s := by
  refine bound_call (N _ hm).1 (by decide) (by decide) entry_list_len (Code.quiet_builtin _ (by decide +kernel)) (check_slotB x chk_len) fun A' => ?_
  have ho := (N _ h1).1
  obtain ⟨hp, g, dd, tk, os⟩ := s
  show wpAny _ _ (seqSize x >>= fun k => retInt k) _ _ _
  unfold seqSize
  repeat (first | (with_reducible refine wpAny_loadPart ho ?_) | wp_step | dsimp only)
  all_goals first | exact ⟨_, rfl, h⟩ | skip
theorem pile_binit {Q : Value → Shared → Prop} (F : Fr h₀ L s.heap m) (N : News h₀ L s.heap news) (hm : (q, boundObj "method-wrapper" "list.__init__" x) ∈ news) (U : Upd x (pileObj d [] n) (pileObj d [] n) news news)
    (h : ∀ h', Fr h₀ L h' m → News h₀ L h' news → Q .none { s with heap := h' }) : wpAny (model prog w) A (call (.ref q) []) Q E s := by
  refine bound_call (N _ hm).1 (by decide) (by decide) PySem.F.entry_list_init (Code.quiet_builtin _ (by decide +kernel)) (check_slotB x chk_init) fun A' => ?_
  obtain ⟨pre, post, e1, e2, a, b⟩ := U.split
  subst e1
  have z := N (x, pileObj d [] n) (List.mem_append.mpr (.inr (.head _)))
  show wpAny _ _ (Builtin.List.listItems (.ref x) >>= fun old => (updateSeq x (fun _ => #[]) >>= fun _ => letGo old.toList.reverse >>= fun _ => ret .none)) _ _ s
  unfold Builtin.List.listItems seqItems?
  refine wpAny_bind (wpAny_bind (wpAny_bind (wpAny_loadPart z.1 (wpAny_pure (wpAny_pure ?_)))))
  refine wpAny_bind (wpAny_updateSeq z.1 rfl ?_ (by rw [sizeLine_eq]; simp))
  refine wpAny_bind (wpAny_letGo (wpAny_pure ⟨_, rfl, ?_⟩))
  obtain ⟨U1, U2⟩ := news_upd (f := Obj.mapSeq (fun _ => #[])) F N a b (o' := pileObj d [] n) rfl rfl
  exact h _ U1 U2
theorem sub_pile_mod (w : World) : subIn (Mine.kp w.params) (.ref 101) (.type "module") = some false := by kernel_rfl
theorem pile_notMod {M : Model} {h : Heap} (X : Frag.In (Mine.kp w.params) h) (ho : h.get? x = some (pileObj d its n)) : Looks M h (isInstance (.ref x) (.type "module")) false := (pile_type ho).andThen (looks_subIn X (sub_pile_mod w))
theorem pile_notType {M : Model} {h : Heap} (ho : h.get? x = some (pileObj d its n)) : Looks M h (isType (.ref x)) false := (Looks.ld ho).andThen .now
theorem cls_type (w : World) : typeIn (Mine.kp w.params) (.ref 101) = some (.type "type") := by kernel_rfl
theorem cls_qual (w : World) : (clsIn (Mine.kp w.params) 101).map (·.qualname) = some (Str.ofString "_Accumulator") := by kernel_rfl
theorem chk_pop_args (x : Addr) : (match Manifest.signature? "list.pop" with | some sig => some (Bind.checkArgs "list.pop" { sig with full := s!"{(Str.ofString "_Accumulator").toString}.{Bind.lastOf "list.pop"}" } ⟨[.ref x], []⟩) | none => none) = some (pure ()) := by kernel_rfl
theorem chk_pop (X : Frag.In (Mine.kp w.params) s.heap) (ho : s.heap.get? x = some (pileObj d its n)) {Q' : Unit → Shared → Prop} {E' : Value → Shared → Prop} {A' : Around} (h : Q' () s) :
    wpAny (model prog w) A' (checkBoundCall "list.pop" ⟨[.ref x], []⟩) Q' E' s := by
  have h1 := chk_pop_args x
  have h2 := cls_qual w
  cases hc : clsIn (Mine.kp w.params) 101 with
  | none => rw [hc] at h2; cases h2
  | some cd =>
    rw [hc] at h2
    have h2' : cd.qualname = Str.ofString "_Accumulator" := Option.some.inj h2
    unfold checkBoundCall
    cases hs : Manifest.signature? "list.pop" with
    | none => rw [hs] at h1; cases h1
    | some sig =>
      rw [hs] at h1
      have h3 := Option.some.inj h1
      have hk : builtinKind "list.pop" = some .method := by decide +kernel
      rw [hk]
      dsimp only
      rw [if_neg (by decide)]
      refine wpAny_bind ((pile_notMod X ho).here ?_)
      rw [if_neg (by decide +kernel)]
      refine wpAny_bind ((pile_notType ho).here ?_)
      rw [if_neg (by decide)]
      refine wpAny_bind ((pile_type ho).here ?_)
      dsimp only
      refine wpAny_bind ((looks_clsIn X hc).here ?_)
      refine wpAny_bind ((looks_typeIn X (cls_type w)).here ?_)
      rw [if_pos (by decide), h2', h3]
      exact wpAny_pure h
theorem pile_bpop {p : List Value} {y : Value} {news' : List (Addr × Obj)} {Q : Value → Shared → Prop} (F : Fr h₀ L s.heap m) (X : Frag.In (Mine.kp w.params) h₀) (N : News h₀ L s.heap news) (hm : (q, boundObj "builtin_function_or_method" "list.pop" x) ∈ news)
    (hz : p.length ≤ 100000) (U : Upd x (pileObj d (p ++ [y]) n) (pileObj d p (n + 1)) news news')
    (h : ∀ h', Fr h₀ L h' m → News h₀ L h' news' → Q y { s with heap := h' }) : wpAny (model prog w) A (call (.ref q) []) Q E s := by
  have hq := (N _ hm).1
  obtain ⟨pre, post, e1, e2, a, b⟩ := U.split
  subst e1 e2
  have z := N (x, pileObj d (p ++ [y]) n) (List.mem_append.mpr (.inr (.head _)))
  refine bound_call hq (by decide) (by decide) PySem.F.entry_list_pop (Code.quiet_builtin _ (by decide +kernel)) (chk_pop (X.keeps F.keep) z.1) fun A' => ?_
  obtain ⟨U1, U2⟩ := news_upd (f := Obj.mapSeq (fun xs => xs.eraseIdxIfInBounds ((p ++ [y]).toArray.size - 1))) F N a b (o' := pileObj d p (n + 1)) (by
    show (⟨.ref 101, some d, .seq ((p ++ [y]).toArray.eraseIdxIfInBounds ((p ++ [y]).toArray.size - 1)) (if ((p ++ [y]).toArray.eraseIdxIfInBounds ((p ++ [y]).toArray.size - 1)).size == (p ++ [y]).toArray.size then n else n + 1), #[]⟩ : Obj) = _
    have hk : (p ++ [y]).toArray.size - 1 = p.length := by rw [List.size_toArray, List.length_append]; rfl
    rw [hk, kl_erase, List.append_nil, if_neg (by simp)]) rfl
  have hf := h _ U1 U2
  clear h U1 U2 hq
  have hl : s.heap.get? x = some { cls := .ref 101, dict := some d, data := .seq (p ++ [y]).toArray n, slots := #[] } := z.1
  have hz2 : (p ++ [y]).toArray.size ≤ sizeLine := by rw [sizeLine_eq]; simp; omega
  have hy : (p ++ [y]).toArray[(p ++ [y]).toArray.size - 1]? = some y := by simp
  clear z N
  generalize (p ++ [y]).toArray = items at hl hz2 hy hf
  obtain ⟨hp, g, dd, tk, os⟩ := s
  have hpos : 0 < items.size := by
    rcases Nat.eq_zero_or_pos items.size with h0 | h0
    · simp [h0] at hy
    · exact h0
  have hne : ¬ items.isEmpty = true := by
    intro he; have : items.size = 0 := by simpa using he
    omega
  have hk : seqIndex? (-1) items.size = some (items.size - 1) := by
    rw [seqIndex_neg (by omega) (by omega)]; congr 1; omega
  unfold Builtin.«list.pop»
  wp_walk using wpAny_loadPart' hl
  simp only [hk, hy, Option.bind_some, Option.map_some]
  have hz' : (items.eraseIdxIfInBounds (items.size - 1)).size ≤ sizeLine + 1 := by unfold Array.eraseIdxIfInBounds; split <;> first | (rw [Array.size_eraseIdx]; omega) | omega
  wp_walk using (wpAny_updateSeq hl rfl (hz := hz2) (_hz' := hz')), wpAny_loadPart' hl
  exact ⟨_, rfl, hf⟩
theorem callWith_b0 {M : Model} {env : Env} {pos : Pos} {kind id : String} {Q : Value → Shared → Prop} (N : News h₀ L s.heap news) (hm : (q, boundObj kind id x) ∈ news) (hk : (Value.type kind != Value.type "method") = true) (hk2 : (Value.type kind == Value.type "builtin_function_or_method" || Value.type kind == Value.type "method-wrapper") = true)
    (h : wpAny M A (call (.ref q) []) Q E s) : wpAny M A (callWith pos (.ref q) [] (backTo pos (starEach [] env)) []) Q E s := by
  show wpAny M A (callWith pos (.ref q) [] [] []) Q E s
  unfold callWith
  refine wpAny_bind (wpAny_holding (PyProof.Rows.evalArgs_none (wpAny_bind (wpAny_standAt ?_))))
  refine wpAny_bind (m := keeperOf (.ref q)) ?_
  unfold keeperOf
  refine wpAny_bind (wpAny_load (N _ hm).1 ?_)
  dsimp only
  rw [if_pos hk, if_pos hk2]
  refine wpAny_pure ?_
  exact wpAny_bind (wpAny_mono h (fun r s₂ hr => wpAny_bind (wpAny_holding (wpAny_point (wpAny_pure hr)))) fun _ _ x => x)
end

theorem lines_bcall57 : True := by
  k_with "getMethod ref" => (k_here; k_dflt (refine' pile_superMethod (kind := "method-wrapper") ?kF'w ?kX'w ?kN'w ?ko'w ?km'w ?kd'w ?k6'w ?k7'w ?kt'w ?kg'w ?kb'w ?kn'w ?_; (case kF'w => k_asm); (case kX'w => k_asm); (case kN'w => k_asm); (case ko'w => with_reducible_and_instances k_mem); (case km'w => with_reducible_and_instances k_mem); (case kd'w => with_reducible_and_instances k_mem); (case k6'w => k_is); (case k7'w => ks_is); (case kt'w => first | exact type_llen | exact type_linit); (case kg'w => exact slot_wd_get.lookup); (case kb'w => exact fun _ X Y => binds_wd X Y (by decide +kernel) (by first | exact type_llen | exact type_linit)); (case kn'w => decide); intro q''w h''w F''w N''w l1'w; (try k_lt l1'w); (try dsimp only)))
  k_with "getMethod ref" => (k_here; k_dflt (refine' pile_superMethod (kind := "builtin_function_or_method") ?kF'w ?kX'w ?kN'w ?ko'w ?km'w ?kd'w ?k6'w ?k7'w ?kt'w ?kg'w ?kb'w ?kn'w ?_; (case kF'w => k_asm); (case kX'w => k_asm); (case kN'w => k_asm); (case ko'w => with_reducible_and_instances k_mem); (case km'w => with_reducible_and_instances k_mem); (case kd'w => with_reducible_and_instances k_mem); (case k6'w => k_is); (case k7'w => ks_is); (case kt'w => exact type_lpop); (case kg'w => exact slot_md_get.lookup); (case kb'w => exact fun _ X Y => binds_md X Y (by decide +kernel) (by decide +kernel) type_lpop); (case kn'w => decide); intro q''w h''w F''w N''w l1'w; (try k_lt l1'w); (try dsimp only)))
  k_with "call ref" => (k_here; (with_reducible show wpAny _ _ (call (Value.ref _) []) _ _ _); with_reducible (refine' pile_blen ?kN'w ?kq'w ?km'w ?_; (case kN'w => assumption); (case kq'w => with_reducible_and_instances k_mem); (case km'w => with_reducible_and_instances k_mem); k_whole))
  k_with "call ref" => (k_here; (with_reducible show wpAny _ _ (call (Value.ref _) []) _ _ _); with_reducible (refine' pile_binit ?kF'w ?kN'w ?kq'w ?kU'w ?_; (case kF'w => assumption); (case kN'w => assumption); (case kq'w => with_reducible_and_instances k_mem); (case kU'w => with_reducible_and_instances k_upd); k_whole); intro h''w F''w N''w; (try k_sweep))
  k_with "call ref" => (k_here; (with_reducible show wpAny _ _ (call (Value.ref _) []) _ _ _); with_reducible (refine' pile_bpop ?kF'w ?kX'w ?kN'w ?kq'w ?kz'w ?kU'w ?_; (case kF'w => assumption); (case kX'w => assumption); (case kN'w => assumption); (case kq'w => with_reducible_and_instances k_mem); (case kU'w => with_reducible_and_instances k_upd); (case kz'w => omega); k_whole); intro h''w F''w N''w; (try k_sweep))
  k_with "callWith ref" => (k_here; (with_reducible show wpAny _ _ (callWith _ (Value.ref _) [] (backTo _ (starEach [] _)) []) _ _ _); k_dflt (refine' callWith_b0 ?kN'w ?kq'w ?k1'w ?k2'w ?_; (case kN'w => k_asm); (case kq'w => with_reducible_and_instances k_mem); (case k1'w => decide); (case k2'w => decide); k_whole))
  trivial

theorem fresh_count58 : True := by
  w_top off
  trivial
theorem c_count (w : World) (x d : Addr) (its : List Value) (n : Nat) (t u : Tok) (hxd : @Ne Nat x d) :
    Con w 10 98 [(x, pileObj d its n), (d, pileDict w t u)] [.ref x] (fun _ r led' => ∃ t', r = .int its.length t' ∧ (x, pileObj d its n) ∈ led' ∧ (d, pileDict w t u) ∈ led') := by
  unfold Con
  k_fill
  intros
  rename_i hret
  (refine wpAny_call ?_; k_dflt (refine' enterS (binds := [(Str.ofString "self", .ref x)]) ?k1 ?k2 ?k3 ?k4 ?k5 ?kA ?kF ?kK ?k6 ?k7 ?k8 ?k9 ?kB ?_ ?c2 ?c3 ?c4 ?c5; (case kA => exact rfl); (case kF => exact rfl); (case kK => first | assumption | exact rfl); (case k1 => k_asm); (case k2 => k_asm); (case k3 => k_asm); (case k4 => assumption); (case k5 => k_asm); (case k6 => k_is); (case k7 => k_is); (case k8 => ktr_room); (case k9 => first | exact BindsTo.of_eq rfl | exact binds_K (by k_in) rfl (by k_is) rfl rfl rfl); (case kB => exact locs rfl); (case c5 => decide); (case c2 => exact rfl); (case c3 => exact rfl); (case c4 => exact rfl); k_whole; intro g' L' h' kb' F' N' B' X' T' l1; (try k_lt l1); (try dsimp only); (try k_lift B'); (try k_fold)))
  k_steps
  dsimp only
  refine hret _ _ _ _ (KeepsBut.then (by assumption) (by assumption)) (by assumption) (by assumption) ⟨_, rfl, .tail _ (.tail _ (.head _)), .tail _ (.tail _ (.tail _ (.head _)))⟩
/-- the ledger after a call that was given the pile alone -/
theorem news_after {h₀ h h' : Heap} {L x d : Addr} {ox ox' od : Obj} {news news' led' : List (Addr × Obj)} (N : News h₀ L h news) (kb : KeepsBut [x, d] h h') (N' : News h₀ L h' led') (U : Upd x ox ox' news news') (h2 : (d, od) ∈ news) (h3 : (x, ox') ∈ led') (h4 : (d, od) ∈ led') : News h₀ L h' news' := by
  obtain ⟨pre, post, rfl, rfl, a, b⟩ := U.split
  have key : ∀ p ∈ pre ++ (x, ox) :: post, p.1 ≠ x → h'.get? p.1 = some p.2 ∧ p.1 ≠ L ∧ h₀.get? p.1 = none := by
    intro p hp hx
    by_cases e : p.1 = d
    · have q1 := (N _ h2).1
      have q2 := (N _ hp).1
      rw [e] at q2
      have q3 : p.2 = od := Option.some.inj (q2.symm.trans q1)
      have r := N' _ h4
      rw [q3, e]; exact r
    · exact ⟨kb _ _ (by simp [hx, e]) (N _ hp).1, (N _ hp).2⟩
  intro p hp
  rcases List.mem_append.mp hp with hp | hp
  · exact key p (List.mem_append.mpr (.inl hp)) (a p hp)
  · rcases List.mem_cons.mp hp with rfl | hp
    · exact N' _ h3
    · exact key p (List.mem_append.mpr (.inr (.tail _ hp))) (b p hp)
theorem count_use {w : World} {x d : Addr} {its : List Value} {n : Nat} {t u : Tok} {news : List (Addr × Obj)}
    {p : Program} {loose : List Str} {mean : ExcName → Option Value} {mg mb : Str → Option Value} {dp un : Nat} {gd : Option (List Code)} {cn : Str} {cs : Scope} {a : Addr} {ccd : Value} {cl : List (Str × Addr)} {outer : List Env} {A₀ : Around} {base h₀ : Heap} {L : Addr} {m : Str → Option Value} {s : Shared} {Q E : Value → Shared → Prop}
    (B : Below A₀ base outer h₀) (F : Fr h₀ L s.heap m) (X : Frag.In (Mine.kp w.params) h₀) (N : News h₀ L s.heap news) (T : Top p loose mean mg mb h₀) (hk : cs.kind = .function)
    (hd : dp + 10 < recursionLimit) (hu : un + 8 * 10 < cLine) (U : Upd x (pileObj d its n) (pileObj d its n) news news) (h1 : (x, pileObj d its n) ∈ news) (h2 : (d, pileDict w t u) ∈ news)
    (ret : ∀ (t' : Tok) (h' : Heap) (tk' : Nat), KeepsBut [x, d] s.heap h' → Fr h₀ L h' m → News h₀ L h' news → Q (.int its.length t') { s with heap := h', toks := tk' }) :
    wpAny (model PySem.Challenge.rw_qw0042_01.row.prog w) (ktrTop dp un gd cn cs L a ccd cl outer) (call (.ref 98) [.ref x]) Q E s :=
  (c_count w x d its n t u (fun e => by
    have q1 := (N _ h1).1
    have q2 := (N _ h2).1
    have e : x = d := e
    subst e
    exact absurd (Option.some.inj (q1.symm.trans q2)) (by intro z; exact absurd (congrArg Obj.dict z) (by simp)))) p loose mean mg mb dp un gd cn cs a ccd cl outer A₀ base h₀ L m s Q E B F X
    (fun q hq => by
      rcases List.mem_cons.mp hq with rfl | hq
      · exact N _ h1
      · rcases List.mem_singleton.mp hq with rfl; exact N _ h2) T hk hd hu fun r led' h' tk' kb F' N' hP => by
      obtain ⟨t', rfl, h3, h4⟩ := hP
      exact ret t' h' tk' kb F' (news_after N kb N' U h2 h3 h4)

theorem lines_count59 : True := by
  k_with "call ref" => (k_here; (show wpAny _ _ (call (Value.ref 98) [Value.ref _]) _ _ _); (try k_fold); k_dflt (refine' count_use ?k1'w ?k2'w ?k3'w ?k4'w ?k5'w ?kK'w ?kd'w ?ku'w ?kU'w ?km'w ?kn'w ?_; (case k1'w => k_asm); (case k2'w => k_asm); (case k3'w => k_asm); (case k4'w => k_asm); (case k5'w => k_asm); (case kK'w => first | exact rfl | assumption); (case kd'w => ktr_room); (case ku'w => ktr_units); (case kU'w => with_reducible_and_instances k_upd); (case km'w => with_reducible_and_instances k_mem); (case kn'w => with_reducible_and_instances k_mem)); intro t9'w h9'w tk9'w kb9'w F9'w N9'w; (try dsimp only); (try k_fold))
  k_with "wpAt" => ((show _root_.PySem.wpAt _ _ _ (execs (_ :: _) _) _ _ _); refine ks_wpAt_execs_cons ?_)
  trivial

theorem fresh_pop60 : True := by
  w_top off
  trivial
theorem c_pop0 (w : World) (x d : Addr) (n : Nat) (t u : Tok) (hxd : @Ne Nat x d) :
    Con w 30 61 [(x, pileObj d [] n), (d, pileDict w t u)] [.ref x] (fun _ _ led' => (x, pileObj d [] n) ∈ led' ∧ (d, pileDict w t u) ∈ led') := by
  unfold Con
  k_fill
  intros
  rename_i hret
  (refine wpAny_call ?_; k_dflt (refine' enterS (binds := [(Str.ofString "self", .ref x)]) ?k1 ?k2 ?k3 ?k4 ?k5 ?kA ?kF ?kK ?k6 ?k7 ?k8 ?k9 ?kB ?_ ?c2 ?c3 ?c4 ?c5; (case kA => exact rfl); (case kF => exact rfl); (case kK => first | assumption | exact rfl); (case k1 => k_asm); (case k2 => k_asm); (case k3 => k_asm); (case k4 => assumption); (case k5 => k_asm); (case k6 => k_is); (case k7 => k_is); (case k8 => ktr_room); (case k9 => first | exact BindsTo.of_eq rfl | exact binds_K (by k_in) rfl (by k_is) rfl rfl rfl); (case kB => exact locs rfl); (case c5 => decide); (case c2 => exact rfl); (case c3 => exact rfl); (case c4 => exact rfl); k_whole; intro g' L' h' kb' F' N' B' X' T' l1; (try k_lt l1); (try dsimp only); (try k_lift B'); (try k_fold)))
  k_steps
  dsimp only
  refine hret _ _ _ _ (KeepsBut.then (by assumption) (by assumption)) (by assumption) (by assumption) ⟨.tail _ (.head _), .tail _ (.tail _ (.head _))⟩
def Hold (P : Prop) : Prop := P
theorem hold_of {P : Prop} (h : Hold P) : P := h
section
local macro_rules | `(tactic| walk_at "wpAt") => `(tactic| ((show _root_.PySem.wpAt _ _ _ (eval _ _) _ _ _); refine hold_of ?_))
theorem c_pop1 (w : World) (x d : Addr) (p : List Value) (y : Value) (n : Nat) (t u : Tok) (hz : p.length ≤ 1000) (hxd : @Ne Nat x d) :
    Con w 30 61 [(x, pileObj d (p ++ [y]) n), (d, pileDict w t u)] [.ref x] (fun _ r led' => r = y ∧ (x, pileObj d p (n + 1)) ∈ led' ∧ (d, pileDict w t u) ∈ led') := by
  unfold Con
  k_fill
  intros
  rename_i hret
  (refine wpAny_call ?_; k_dflt (refine' enterS (binds := [(Str.ofString "self", .ref x)]) ?k1 ?k2 ?k3 ?k4 ?k5 ?kA ?kF ?kK ?k6 ?k7 ?k8 ?k9 ?kB ?_ ?c2 ?c3 ?c4 ?c5; (case kA => exact rfl); (case kF => exact rfl); (case kK => first | assumption | exact rfl); (case k1 => k_asm); (case k2 => k_asm); (case k3 => k_asm); (case k4 => assumption); (case k5 => k_asm); (case k6 => k_is); (case k7 => k_is); (case k8 => ktr_room); (case k9 => first | exact BindsTo.of_eq rfl | exact binds_K (by k_in) rfl (by k_is) rfl rfl rfl); (case kB => exact locs rfl); (case c5 => decide); (case c2 => exact rfl); (case c3 => exact rfl); (case c4 => exact rfl); k_whole; intro g' L' h' kb' F' N' B' X' T' l1; (try k_lt l1); (try dsimp only); (try k_lift B'); (try k_fold)))
  have hl : (((p ++ [y]).length : Nat) : Int) ≠ 0 := by simp; omega
  k_steps
  · exact absurd (by assumption) hl
  unfold Hold
  refine ks_wpAt_MethodCall ?_
  k_steps
  dsimp only
  refine hret _ _ _ _ (KeepsBut.then (by assumption) (by assumption)) (by assumption) (by assumption) ⟨rfl, ?_, ?_⟩
  · simp
  · simp
end

theorem fresh_aslice61 : True := by
  w_top off
  trivial
section
variable {prog : Program} {w : World} {A : Around} {E : Value → Shared → Prop} {s : Shared} {h₀ : Heap} {L x d so q : Addr} {m : Str → Option Value} {news : List (Addr × Obj)} {its : List Value} {n : Nat} {name : Str} {od : Obj}
theorem pile_special {M : Model} {h : Heap} {fv : Option Value} (X : Frag.In (Mine.kp w.params) h) (ho : h.get? x = some (pileObj d its n)) (hs : findIn (Mine.kp w.params) (.ref 101) name = some fv) : Looks M h (specialOf (.ref x) name) fv := by
  unfold specialOf
  exact (pile_type ho).andThen (looks_findIn X hs)
theorem gi_pile (w : World) : findIn (Mine.kp w.params) (.ref 101) (Str.ofString "__getitem__") = some (some (.builtin "list.__getitem__")) := by kernel_rfl
theorem si_pile (w : World) : findIn (Mine.kp w.params) (.ref 101) (Str.ofString "__setitem__") = some (some (.builtin "list.__setitem__")) := by kernel_rfl
theorem sub_pile_deque (w : World) : subIn (Mine.kp w.params) (.ref 101) (.type "collections.deque") = some false := by kernel_rfl
theorem pile_key {M : Model} {k : Value} {Q : Value → Shared → Prop} (X : Frag.In (Mine.kp w.params) s.heap) (ho : s.heap.get? x = some (pileObj d its n)) (h : Q k s) : wpAny M A (sequenceKey (.ref x) k name) Q E s := by
  unfold sequenceKey
  refine wpAny_bind ((pile_type ho).here ?_)
  dsimp only
  refine wpAny_bind ?_
  unfold seqItemTypes
  show wpAny _ _ (List.anyM (fun n => isSubtype (.ref 101) (.type n)) ["collections.deque"]) _ _ _
  simp only [List.anyM]
  refine wpAny_bind ((looks_subIn X (sub_pile_deque w)).here ?_)
  exact wpAny_pure (wpAny_pure h)
theorem pile_getSlice {sl : Addr} {vl vu vs : Value} {lo hi st : Option Int} {Q : Value → Shared → Prop} (X : Frag.In (Mine.kp w.params) s.heap) (ho : s.heap.get? x = some (pileObj d its n))
    (hs : s.heap.IsSliceOf sl vl vu vs) (pl : IsPart vl lo) (pu : IsPart vu hi) (ps : IsPart vs st) (h0 : st ≠ some 0)
    (h : Q (.ref s.heap.objs.size) { s with heap := s.heap.push { cls := .type "list", data := .seq (slicePick its.toArray lo hi st) } })
    (hsz : its.toArray.size ≤ sizeLine) : wpAny (model prog w) A (getItem (.ref x) (.ref sl)) Q E s := by
  obtain ⟨os, hos, hcs, hds⟩ := id hs
  have hTs : s.TypeIs (.ref sl) "slice" := ⟨os, hos, hcs⟩
  unfold getItem
  try with_reducible refine wpAny_holding ?_
  refine wpAny_bind (pile_key X ho ?_)
  unfold callSpecial?
  refine wpAny_bind (wpAny_bind ((pile_special X ho (gi_pile w)).here ?_))
  dsimp only
  refine wpAny_holding (wpAny_bind ?_)
  refine wpAny_of_eq (slot_list_getitem.bind _) (wpAny_bind ?_)
  show wpAny _ _ (call (.builtin "list.__getitem__") [.ref x, .ref sl]) _ _ _
  refine pile_call (by first | exact .inl (by decide +kernel) | exact .inr (by decide +kernel)) (nm := "__getitem__") (by decide +kernel) (by decide +kernel) entry_list_getitem (args_list_getitem _ _) X ho ?_
  show wpAny _ _ (Builtin.List.listSubscript? (.ref sl) >>= _) _ _ s
  refine wpAny_bind ?_
  unfold Builtin.List.listSubscript?
  refine wpAny_bind (wpAny_specialOf hTs slice_no_index ?_)
  simp only [Option.isNone_none, if_true]
  refine wpAny_pure ?_
  show wpAny _ _ (typeOf (.ref sl) >>= _) _ _ s
  refine wpAny_bind (wpAny_typeOf hTs ?_)
  rw [if_neg (by decide)]
  rw [listSliceParts_eq]
  have hstep : ¬ ((rawPart st == rawInt 0) = true) := by
    cases st with
    | none => exact Bool.false_ne_true
    | some c =>
      intro hh
      have : c = 0 := by simpa [rawPart, rawInt] using hh
      exact h0 (by rw [this])
  refine wpAny_bind (wpAny_bind (wpAny_field hos hds (x := vs) rfl (wpAny_bind (wpAny_listPart ps ?_))))
  rw [if_neg hstep]
  refine wpAny_bind (wpAny_field hos hds (x := vl) rfl (wpAny_bind (wpAny_listPart pl ?_)))
  refine wpAny_bind (wpAny_field hos hds (x := vu) rfl (wpAny_bind (wpAny_listPart pu (wpAny_pure ?_))))
  refine wpAny_bind (m := Builtin.List.listItems (.ref x)) ?_
  unfold Builtin.List.listItems
  refine wpAny_bind (wpAny_seqItems ho rfl (wpAny_pure ?_))
  refine wpAny_bind (wpAny_of_eq (sliceIndices_raw lo hi st its.toArray.size h0) ?_)
  refine wpAny_bind (wpAny_newObj_type (wpAny_pure ⟨_, rfl, wpAny_pure (wpAny_pure h)⟩) (Nat.le_trans (slicePick_size_le its.toArray lo hi st) hsz))
theorem pile_slice {value slice : Expr} {vl vu : Value} {lo hi : Option Int} {Q : Value → Shared → Prop} (F : Fr h₀ L s.heap m) (X₀ : Frag.In (Mine.kp w.params) h₀) (N : News h₀ L s.heap news) (h1 : (x, pileObj d its n) ∈ news) (pl : IsPart vl lo) (pu : IsPart vu hi)
    (h : ∀ D h', Fr h₀ L h' m → News h₀ L h' ((D, listOf (slicePick its.toArray lo hi none) 0) :: news) → (∀ p ∈ news, p.1 < D) → Q (.ref D) { s with heap := h' })
    (hs : subscripted slice false (.ref x) (.ref s.heap.objs.size) = operate [.ref s.heap.objs.size, .ref x] (getItem (.ref x) (.ref s.heap.objs.size))) (ht : ∀ r, letTemporaryGo value (.ref x) r = pure ()) (hz : its.length ≤ 100000) :
    wpAny (model prog w) A (subscriptTail value slice (.ref x) (.ref s.heap.objs.size)) Q E { s with heap := s.heap.push { cls := .type "slice", data := .fields #[vl, vu, .none] } } := by
  have F1 := F.push { cls := .type "slice", data := .fields #[vl, vu, .none] }
  have X1 := X₀.keeps F1.keep
  have ho : (s.heap.push { cls := .type "slice", data := .fields #[vl, vu, .none] }).get? x = some (pileObj d its n) := Heap.get?_push_of_some _ (N _ h1).1
  unfold subscriptTail
  refine wpAny_bind ?_
  rw [getitemInPython_of_ne (by intro e; cases e)]
  refine wpAny_bind ((pile_special X1 ho (gi_pile w)).here ?_)
  refine wpAny_pure ?_
  rw [hs]
  refine wpAny_bind (wpAny_operating (pile_getSlice X1 ho (Heap.IsSliceOf.new ..) pl pu .none (by simp) ?_ (by rw [sizeLine_eq]; simp; omega)))
  refine wpAny_bind (wpAny_of_eq (ht _) (wpAny_pure ?_))
  have N1 := News.push F1 (N.grown fun _ _ e => Heap.get?_push_of_some _ e) { cls := .type "list", data := .seq (slicePick its.toArray lo hi none) }
  exact h _ _ (F1.push _) N1 fun p hp => by
    rw [Heap.size_push]; exact Nat.lt_succ_of_lt (Heap.lt_size (N p hp).1)
end

theorem lines_bslice61 : True := by
  k_with "subscriptTail Name Slice ref ref" => (k_here; (with_reducible show wpAny _ _ (subscriptTail _ (PySem.Expr.Slice _ _ none _) (Value.ref _) (Value.ref _)) _ _ _); k_dflt (refine' pile_slice ?F'w ?X'w ?N'w ?l'w ?p'w ?q'w ?_ ?s'w ?t'w ?z'w; (case F'w => k_asm); (case X'w => k_asm); (case N'w => k_asm); (case l'w => with_reducible_and_instances k_mem); (case p'w => kmk_part); (case q'w => kmk_part); (case s'w => with_unfolding_all rfl); (case t'w => kmk_pure); (case z'w => omega)); intro D''w h''w F''w N''w l1'w; (try k_lt l1'w); (try k_sweep))
  trivial

theorem fresh_cset61 : True := by
  w_top off
  trivial
section
variable {prog : Program} {w : World} {A : Around} {E : Value → Shared → Prop} {s : Shared} {h₀ : Heap} {L x d so q D : Addr} {m : Str → Option Value} {news news' : List (Addr × Obj)} {its : List Value} {n c : Nat} {name : Str} {od : Obj}
theorem wpAny_listItems {M : Model} {a : Addr} {o : Obj} {items : Array Value} {k : Nat} {Q : Array Value → Shared → Prop} (ho : s.heap.get? a = some o) (hd : o.data = .seq items k) (h : Q items s) : wpAny M A (Builtin.List.listItems (.ref a)) Q E s := by
  unfold Builtin.List.listItems
  exact wpAny_bind (wpAny_seqItems ho hd (wpAny_pure h))
abbrev cutN (n : Nat) (its : List Value) (k : Nat) : Nat := if (its.take k).toArray.size == its.toArray.size then n else n + 1
theorem pile_setSlice {vl : Value} {k : Nat} {Q : Unit → Shared → Prop} (F : Fr h₀ L s.heap m) (X₀ : Frag.In (Mine.kp w.params) h₀) (N : News h₀ L s.heap news) (h2 : (D, listOf #[] c) ∈ news) (pl : IsPart vl (some (k : Int))) (hz : its.length ≤ 100000)
    (U : Upd x (pileObj d its n) (pileObj d (its.take k) (cutN n its k)) news news')
    (h : ∀ h', Fr h₀ L h' m → News h₀ L h' news' → Q () { s with heap := h' }) :
    wpAny (model prog w) A (setItem (.ref x) (.ref s.heap.objs.size) (.ref D)) Q E { s with heap := s.heap.push { cls := .type "slice", data := .fields #[vl, .none, .none] } } := by
  obtain ⟨pre, post, e1, e2, a, b⟩ := U.split
  subst e1 e2
  have F1 := F.push { cls := .type "slice", data := .fields #[vl, .none, .none] }
  have N1 := N.grown (h' := s.heap.push { cls := .type "slice", data := .fields #[vl, .none, .none] }) fun _ _ e => Heap.get?_push_of_some _ e
  have X1 := X₀.keeps F1.keep
  have z := N1 (x, pileObj d its n) (List.mem_append.mpr (.inr (.head _)))
  have ho := z.1
  have hD := (N1 _ h2).1
  have hs : (s.heap.push { cls := .type "slice", data := .fields #[vl, .none, .none] }).IsSliceOf s.heap.objs.size vl .none .none := Heap.IsSliceOf.new ..
  obtain ⟨os, hos, hcs, hds⟩ := id hs
  have hTs : ({ s with heap := s.heap.push { cls := .type "slice", data := .fields #[vl, .none, .none] } } : Shared).TypeIs (.ref s.heap.objs.size) "slice" := ⟨os, hos, hcs⟩
  have hxD : (x == D) = false := by
    rw [beq_eq_false_iff_ne]; intro e; subst e
    have := (Option.some.inj (ho.symm.trans hD))
    exact absurd (congrArg Obj.dict this) (by simp)
  unfold setItem
  try with_reducible refine wpAny_holding ?_
  refine wpAny_bind (pile_key X1 ho ?_)
  unfold callSpecial?
  refine wpAny_bind (wpAny_bind ((pile_special X1 ho (si_pile w)).here ?_))
  dsimp only
  refine wpAny_holding (wpAny_bind ?_)
  refine wpAny_of_eq (PySem.F.slot_list_setitem.bind _) (wpAny_bind ?_)
  show wpAny _ _ (call (.builtin "list.__setitem__") [.ref x, .ref s.heap.objs.size, .ref D]) _ _ _
  refine pile_call (by first | exact .inl (by decide +kernel) | exact .inr (by decide +kernel)) (nm := "__setitem__") (by decide +kernel) (by decide +kernel) PySem.F.entry_list_setitem (PySem.F.args_list_setitem_3 _ _ _) X1 ho ?_
  show wpAny _ _ (Builtin.List.listSubscript? (.ref s.heap.objs.size) >>= _) _ _ _
  refine wpAny_bind ?_
  unfold Builtin.List.listSubscript?
  refine wpAny_bind (wpAny_specialOf hTs slice_no_index ?_)
  simp only [Option.isNone_none, if_true]
  refine wpAny_pure ?_
  show wpAny _ _ (typeOf (.ref s.heap.objs.size) >>= _) _ _ _
  refine wpAny_bind (wpAny_typeOf hTs ?_)
  rw [if_neg (by decide)]
  rw [listSliceParts_eq]
  refine wpAny_bind (wpAny_bind (wpAny_field hos hds (x := .none) rfl (wpAny_bind (wpAny_listPart .none ?_))))
  rw [if_neg (by decide)]
  refine wpAny_bind (wpAny_field hos hds (x := vl) rfl (wpAny_bind (wpAny_listPart pl ?_)))
  refine wpAny_bind (wpAny_field hos hds (x := .none) rfl (wpAny_bind (wpAny_listPart .none (wpAny_pure ?_))))
  rw [if_neg (show ¬ (Builtin.List.listSameRef (Value.ref x) (Value.ref D) = true) from by show ¬ ((x == D) = true); rw [hxD]; exact Bool.false_ne_true)]
  unfold Builtin.List.listAllItems
  refine wpAny_bind (wpAny_bind (wpAny_typeOf ⟨_, hD, rfl⟩ ?_))
  rw [if_pos (by rfl)]
  refine wpAny_listItems hD rfl ?_
  refine wpAny_bind (wpAny_listItems ho rfl ?_)
  refine wpAny_bind (wpAny_of_eq (sliceIndices_raw (some (k : Int)) none none its.toArray.size (by simp)) ?_)
  have e0 : sliceBounds (some (k : Int)) none none its.toArray.size = (((min k its.length : Nat) : Int), ((its.length : Nat) : Int), 1) := by
    have h1 : ¬ ((k : Int) < 0) := by omega
    have h2 : (0 : Int) < 1 := by decide
    simp only [sliceBounds, List.size_toArray, Option.getD_none, h1, if_false, gt_iff_lt, h2, if_true]
    congr 1
    omega
  rw [e0]
  dsimp only
  rw [if_pos (by rfl)]
  refine wpAny_bind (wpAny_rule ?_)
  rw [if_neg (by show ¬ (decide (_ > sizeLine) = true); rw [sizeLine_eq]; simp; omega)]
  have ef : ∀ f : Array Value → Array Value, f its.toArray = (its.take k).toArray → Obj.mapSeq f (pileObj d its n) = pileObj d (its.take k) (cutN n its k) := by
    intro f hf
    show (⟨.ref 101, some d, .seq (f its.toArray) (if (f its.toArray).size == its.toArray.size then n else n + 1), #[]⟩ : Obj) = _
    rw [hf]
  have hf0 : its.toArray.extract 0 ((min k its.length : Nat) : Int).toNat ++ (#[] : Array Value) ++ its.toArray.extract (max ((min k its.length : Nat) : Int) ((its.length : Nat) : Int)).toNat its.toArray.size = (its.take k).toArray := by
    apply Array.toList_inj.mp
    have e1 : (max ((min k its.length : Nat) : Int) ((its.length : Nat) : Int)).toNat = its.length := by omega
    rw [e1]
    simp
  unfold Builtin.List.listUpdate
  dsimp only
  refine wpAny_bind (wpAny_updateSeq ho rfl (wpAny_bind (wpAny_letGo (wpAny_pure ⟨.none, rfl, ?_⟩))) (by rw [sizeLine_eq]; simp; omega))
  refine wpAny_pure ?_
  dsimp only
  refine wpAny_pure ?_
  obtain ⟨U1, U2⟩ := news_upd (f := Obj.mapSeq (fun xs => xs.extract 0 ((min k its.length : Nat) : Int).toNat ++ #[] ++ xs.extract (max ((min k its.length : Nat) : Int) ((its.length : Nat) : Int)).toNat xs.size)) F1 N1 a b (ef _ hf0) rfl
  exact h _ U1 U2
end

theorem fresh_popfrom62 : True := by
  w_top off
  trivial
theorem c_popfrom (w : World) (x d : Addr) (its : List Value) (n : Nat) (t u : Tok) (k : Nat) (v : Tok) (hz : its.length ≤ 1000) (hxd : @Ne Nat x d) :
    Con w 30 53 [(x, pileObj d its n), (d, pileDict w t u)] [.ref x, .int k v] (fun _ _ led' => ∃ n', (x, pileObj d (its.take k) n') ∈ led' ∧ (d, pileDict w t u) ∈ led') := by
  unfold Con
  k_fill
  intros
  rename_i hret
  (refine wpAny_call ?_; k_dflt (refine' enterL (binds := [(Str.ofString "self", .ref x), (Str.ofString "i", .int k v)]) ?k1 ?k2 ?k3 ?k4 ?k5 ?kA ?kF ?kK ?k6 ?k7 ?k8 ?k9 ?kB ?_ ?c2 ?c3 ?c4 ?c5; (case kA => exact rfl); (case kF => exact rfl); (case kK => first | assumption | exact rfl); (case k1 => k_asm); (case k2 => k_asm); (case k3 => k_asm); (case k4 => assumption); (case k5 => k_asm); (case k6 => k_is); (case k7 => k_is); (case k8 => ktr_room); (case k9 => first | exact BindsTo.of_eq rfl | exact binds_K (by k_in) rfl (by k_is) rfl rfl rfl); (case kB => exact locs rfl); (case c5 => decide); (case c2 => exact rfl); (case c3 => exact rfl); (case c4 => exact rfl); k_whole; intro g' L' h' kb' F' N' B' X' T' l1; (try k_lt l1); (try dsimp only); (try k_lift B'); (try k_fold)))
  k_steps
  k_dflt (refine' pile_setSlice ?w1 ?w2 ?w3 ?w4 ?w5 ?w6 ?w7 ?_; (case w1 => k_asm); (case w2 => k_asm); (case w3 => k_asm); (case w4 => with_reducible_and_instances k_mem); (case w5 => kmk_part); (case w7 => with_reducible_and_instances k_upd); (case w6 => omega))
  intro h' F' N'
  k_steps
  dsimp only
  refine hret _ _ _ _ (KeepsBut.then (by assumption) (by assumption)) (by assumption) (by assumption) ⟨_, .tail _ (.tail _ (.head _)), .tail _ (.tail _ (.tail _ (.head _)))⟩

theorem fresh_ainit63 : True := by
  w_top off
  trivial
section
variable {prog : Program} {w : World} {A : Around} {E : Value → Shared → Prop} {s : Shared} {h₀ : Heap} {L x d : Addr} {m : Str → Option Value} {news news' : List (Addr × Obj)} {its : List Value} {n : Nat}
abbrev isName : Str := Str.ofString "_initial_size"
theorem pile_mro (w : World) : (clsIn (Mine.kp w.params) 101).map (fun c => (c.mro, c.hasDict)) = some ([.ref 101, .type "list", .type "object"], true) := by kernel_rfl
theorem pile_sa (w : World) : findIn (Mine.kp w.params) (.ref 101) "__setattr__" = some (some (.builtin "object.__setattr__")) := by kernel_rfl
theorem pile_isn (w : World) : findIn (Mine.kp w.params) (.ref 101) isName = some none := by kernel_rfl
theorem pile_refuse (self : Value) : refuseLoop self "__setattr__" [.ref 101, .type "list", .type "object"] = pure () := by kernel_rfl
theorem sub_pile_obj (w : World) : subIn (Mine.kp w.params) (.ref 101) (.type "object") = some true := by kernel_rfl
theorem put_is (w : World) (v : Value) (tk : Tok) : Obj.putName isName (PyData.keyHash w.params isName) (.str isName tk) v emptyDict = dictOf [⟨PyData.keyHash w.params isName, .str isName tk, v⟩] 1 := by rfl
theorem pile_setIS {v : Value} {Q : Unit → Shared → Prop} (F : Fr h₀ L s.heap m) (X₀ : Frag.In (Mine.kp w.params) h₀) (N : News h₀ L s.heap news) (h1 : (x, pileObj d its n) ∈ news)
    (U : Upd d emptyDict (dictOf [⟨PyData.keyHash w.params isName, .str isName (s.toks + 1), v⟩] 1) news news')
    (h : ∀ h', Fr h₀ L h' m → News h₀ L h' news' → Q () { s with heap := h', toks := s.toks + 1 + 1 }) :
    wpAny (model prog w) A (setAttr (.ref x) isName v) Q E s := by
  obtain ⟨pre, post, e1, e2, a, b⟩ := U.split
  subst e1 e2
  have hd := (N (d, emptyDict) (List.mem_append.mpr (.inr (.head _)))).1
  have hx := (N _ h1).1
  have X := X₀.keeps F.keep
  have I : InstAt s.heap x (pileObj d its n) 101 (some emptyDict) := ⟨hx, rfl, rfl, hd⟩
  have hmro := pile_mro w
  cases hc : clsIn (Mine.kp w.params) 101 with
  | none => rw [hc] at hmro; cases hmro
  | some cd =>
  rw [hc] at hmro
  have hm1 : cd.mro = [.ref 101, .type "list", .type "object"] := congrArg Prod.fst (Option.some.inj hmro)
  have hm2 : cd.hasDict = true := congrArg Prod.snd (Option.some.inj hmro)
  obtain ⟨hh, g, dr, tk, os⟩ := s
  replace hx : hh.get? x = some (pileObj d its n) := hx
  replace hd : hh.get? d = some emptyDict := hd
  replace X : Frag.In (Mine.kp w.params) hh := X
  refine set_plain (s := ⟨hh, g, dr, tk, os⟩) X I (pile_sa w) ?_
  have SF := PySem.F.store_object
  have sub : Looks (model prog w) hh (isInstance (.ref x) (.type "object")) true := (pile_type hx).andThen (looks_subIn X (sub_pile_obj w))
  refine codeAny_call_builtin SF.slot.plain SF.entry (@check_slot (model prog w) _ _ _ "object.__setattr__" "object" "__setattr__" (.ref x) _ [] _ SF.kind SF.split sub (SF.args _ _ _) ?_)
  have hm : Looks (model prog w) hh (mroOf (.ref 101)) cd.mro := (looks_clsIn X hc).andThen .now
  rw [osa_eq, refuse_eq]
  refine wpAny_bind (wpAny_bind ((pile_type hx).here (wpAny_bind (hm.here ?_))))
  rw [hm1, pile_refuse]
  refine wpAny_pure (wpAny_bind ((pile_type hx).here (wpAny_bind ((looks_findIn X (pile_isn w)).here (wpAny_bind (wpAny_pure ?_))))))
  dsimp only
  obtain ⟨U1, U2⟩ := news_upd (f := Obj.putName isName (PyData.keyHash w.params isName) (.str isName (tk + 1)) v) F N a b (put_is w v (tk + 1)) rfl
  have D' := (U2 (d, dictOf [⟨PyData.keyHash w.params isName, .str isName (tk + 1), v⟩] 1) (by simp)).1
  refine wpAny_bind (wpAny_pure (wpAny_bind (wpAny_bind (wpAny_loadPart hx (wpAny_bind ((looks_clsIn X hc).here ?_))))))
  rw [hm2]
  refine wpAny_pure (a := some d) (wpAny_bind (wpAny_pure (wpAny_bind ?_)))
  unfold nsSet
  refine wpAny_bind (wpAny_bind (wpAny_askSetting (wpAny_pure (wpAny_bind (wpAny_mkText (wpAny_bind (wpAny_loadPart hd ?_)))))))
  dsimp only
  rw [if_neg (by decide +kernel)]
  refine wpAny_updatePart hd ?_
  refine wpAny_bind (wpAny_lookBehind D' (pastItsLine_dict (by rw [sizeLine_eq]; simp)) ?_)
  exact wpAny_pure (h _ U1 U2)
end

theorem fresh_init63 : True := by
  w_top off
  trivial
theorem c_init (w : World) (x d : Addr) (hxd : @Ne Nat x d) :
    Con w 30 38 [(x, pileObj d [] 0), (d, emptyDict)] [.ref x] (fun _ r led' => ∃ n t u, r = .none ∧ (x, pileObj d [] n) ∈ led' ∧ (d, pileDict w t u) ∈ led') := by
  unfold Con
  k_fill
  intros
  rename_i hret
  (refine wpAny_call ?_; k_dflt (refine' enterS (binds := [(Str.ofString "self", .ref x), (Str.ofString "initial_size", .int 0 210)]) ?k1 ?k2 ?k3 ?k4 ?k5 ?kA ?kF ?kK ?k6 ?k7 ?k8 ?k9 ?kB ?_ ?c2 ?c3 ?c4 ?c5; (case kA => exact rfl); (case kF => exact rfl); (case kK => first | assumption | exact rfl); (case k1 => k_asm); (case k2 => k_asm); (case k3 => k_asm); (case k4 => assumption); (case k5 => k_asm); (case k6 => k_is); (case k7 => k_is); (case k8 => ktr_room); (case k9 => first | exact BindsTo.of_eq rfl | exact binds_K (by k_in) rfl (by k_is) rfl rfl rfl); (case kB => exact locs rfl); (case c5 => decide); (case c2 => exact rfl); (case c3 => exact rfl); (case c4 => exact rfl); k_whole; intro g' L' h' kb' F' N' B' X' T' l1; (try k_lt l1); (try dsimp only); (try k_lift B'); (try k_fold)))
  k_steps
  k_dflt (refine' pile_setIS ?w1 ?w2 ?w3 ?w4 ?w5 ?_; (case w1 => k_asm); (case w2 => k_asm); (case w3 => k_asm); (case w4 => with_reducible_and_instances k_mem); (case w5 => with_reducible_and_instances k_upd))
  intro h' F' N'
  dsimp only
  refine ks_wpAt_execs_cons ?_
  refine ks_wpAt_Expr_any ?_
  refine ks_wpAt_MethodCall ?_
  k_steps
  dsimp only
  refine hret _ _ _ _ (KeepsBut.then (by assumption) (by assumption)) (by assumption) (by assumption) ⟨0, _, 210, rfl, .tail _ (.tail _ (.head _)), .tail _ (.tail _ (.tail _ (.head _)))⟩

theorem fresh_amake64 : True := by
  w_top off
  trivial
noncomputable def makesP (K : Frag) : Bool := match K.lookup 101 with
  | some ⟨_, _, .cls cd, sl⟩ => !cd.abstract && !cd.hasDel && (sl.toList[4]?).join == some (.builtin "list.__new__") && !cd.mro.isEmpty
  | _ => false
theorem makesP_is (w : World) : makesP (Mine.kp w.params) = true := by kernel_rfl
theorem pile_call_slot (w : World) : findIn (Mine.kp w.params) (.ref 101) "__init__" = some (some (.ref 38)) := by kernel_rfl
theorem pile_init_fn (w : World) : typeIn (Mine.kp w.params) (.ref 38) = some (.type "function") := by kernel_rfl
theorem pile_meta_call (w : World) : specialIn (Mine.kp w.params) (.ref 101) "__call__" = some (some (.builtin "type.__call__")) := by kernel_rfl
theorem pile_meta (w : World) : instIn (Mine.kp w.params) (.ref 101) (.type "type") = some true := by kernel_rfl
theorem pile_self (w : World) : subIn (Mine.kp w.params) (.ref 101) (.ref 101) = some true := by kernel_rfl
theorem lnew_kind : builtinKind "list.__new__" = some .builtinFn := by decide +kernel
theorem lnew_split : splitId "list.__new__" = some ("list", "__new__") := by decide +kernel
theorem lnew_args : (match Manifest.signature? "list.__new__" with | some sig => some (Bind.checkArgs "list.__new__" sig ⟨[.ref 101], []⟩) | none => none) = some (pure ()) := by kernel_rfl

theorem fresh_bmake64 : True := by
  w_top off
  trivial
section
variable {prog : Program} {w : World} {A : Around} {R : Result → Shared → Prop} {h : Heap} {g : Array GenState} {d : Drawn} {t : Nat} {os : OsState}
structure MakesP (M : Model) (h : Heap) : Prop where
  obj : ∃ oc od cd sl, h.get? 101 = some ⟨oc, od, .cls cd, sl⟩ ∧ cd.abstract = false ∧ cd.hasDel = false ∧ cd.mro.isEmpty = false
  made : Looks M h (Bind.madeBy (.ref 101)) (some "list.__new__")
  base : Looks M h (Bind.staticBase (.ref 101)) (.ref 101)
  self : Looks M h (isSubtype (.ref 101) (.ref 101)) true
  top : Looks M h (isSubtype (.ref 101) (.type "list")) true
  call : Looks M h (specialOf (.ref 101) "__call__") (some (.builtin "type.__call__"))
  typ : Looks M h (isInstance (.ref 101) (.type "type")) true
  istype : Looks M h (isType (.ref 101)) true
theorem makesP_of {M : Model} {h : Heap} {w : World} (X : Frag.In (Mine.kp w.params) h) : MakesP M h := by
  have e := makesP_is w
  unfold makesP at e
  split at e
  · rename_i oc od cd sl ho
    simp only [Bool.and_eq_true, Bool.not_eq_true', beq_iff_eq] at e
    obtain ⟨⟨⟨e1, e2⟩, e3⟩, e4⟩ := e
    have hc : clsIn (Mine.kp w.params) 101 = some cd := by unfold clsIn; rw [ho]
    have hm : Looks M h (mroOf (.ref 101)) cd.mro := (looks_clsIn X hc).andThen .now
    obtain ⟨c, l, hl⟩ : ∃ c l, cd.mro = c :: l := by cases q : cd.mro with | nil => rw [q] at e4; cases e4 | cons c l => exact ⟨c, l, rfl⟩
    have made : Looks M h (Bind.madeBy (.ref 101)) (some "list.__new__") := by
      intro A Q E s k q
      unfold Bind.madeBy
      refine wpAny_bind (hm A _ E s k ?_)
      rw [hl, List.forIn_cons]
      refine wpAny_bind (wpAny_bind (wpAny_bind (wpAny_bind (wpAny_loadPart (k _ _ (X _ _ ho)) (wpAny_pure ?_)))))
      dsimp only
      rw [← Array.getElem?_toList, e3]
      exact wpAny_pure (wpAny_pure (wpAny_pure q))
    refine ⟨⟨oc, od, cd, sl, X _ _ ho, e1, e2, e4⟩, made, ?_, looks_subIn X (pile_self w), looks_subIn X (sub_pile w), looks_specialIn X (pile_meta_call w), looks_instIn X (pile_meta w), ?_⟩
    · intro A Q E s k q
      unfold Bind.staticBase
      refine wpAny_bind (hm A _ E s k ?_)
      rw [hl, List.forIn_cons]
      exact wpAny_bind (wpAny_bind (wpAny_bind (made A _ E s k (wpAny_pure (wpAny_pure (wpAny_pure q))))))
    · exact (Looks.ld (X _ _ ho)).andThen .now
  · cases e
theorem list_new_pile (Y : MakesP (model prog w) h)
    (hq : R (.ok (.ret (.ref (h.objs.size + 1)))) ⟨(h.push emptyDict).push (pileObj h.objs.size [] 0), g, d, t, os⟩) :
    codeAny (model prog w) A (.call (.builtin "list.__new__") ⟨[.ref 101], []⟩) R ⟨h, g, d, t, os⟩ := by
  obtain ⟨⟨oc, od, cd, sl, hC, e1, e2, e4⟩, made, base, self, top, call, typ, istype⟩ := Y
  refine codeAny_call_builtin_code (plainId_quiet F.plain_list_new _) ?_
  have ha := lnew_args
  simp only [checkBuiltinCall, lnew_kind, lnew_split]
  cases hs : Manifest.signature? "list.__new__" with
  | none => rw [hs] at ha; cases ha
  | some sig =>
  rw [hs] at ha
  have h3 := Option.some.inj ha
  dsimp only
  rw [h3]
  rw [if_pos (by decide)]
  repeat (first | simp only [bne_self_eq_false, Bool.false_eq_true, if_false, Bool.not_true] | lk)
  refine codeAny_builtin_stack F.entry_list_new rfl fun p st => ?_
  have hown := owner_list_new
  simp only [hown]
  refine wpAny_bind (istype.here ?_)
  simp only [Bool.not_true, Bool.false_eq_true, if_false]
  refine wpAny_bind (top.here ?_)
  simp only [Bool.not_true, Bool.false_eq_true, if_false]
  refine wpAny_bind (wpAny_pure ?_)
  rw [if_neg (by decide)]
  refine wpAny_bind (m := newDict) ?_
  show wpAny _ _ (alloc emptyDict >>= fun a => pure (Value.ref a)) _ _ _
  refine wpAny_bind (wpAny_alloc (wpAny_pure ?_))
  dsimp only
  refine wpAny_bind ?_
  show wpAny _ _ (newObjAsIs _ _ _) _ _ _
  unfold newObjAsIs classHasDel
  refine wpAny_bind (wpAny_alloc (wpAny_bind (wpAny_bind (wpAny_load (Heap.get?_push_of_some _ (Heap.get?_push_of_some _ hC)) (wpAny_pure ?_)))))
  rw [e2]
  refine wpAny_pure (wpAny_pure ?_)
  show R _ _
  rw [Heap.size_push]
  exact hq
end

theorem fresh_cmake64 : True := by
  w_top off
  trivial
theorem c_make (w : World) (p : Program) (loose : List Str) (mean : ExcName → Option Value) (mg mb : Str → Option Value) (dp un : Nat) (gd : Option (List Code)) (cn : Str) (cs : Scope) (a : Addr) (ccd : Value) (cl : List (Str × Addr)) (outer : List Env) (A₀ : Around) (base h₀ : Heap) (L : Addr) (m : Str → Option Value) (news : List (Addr × Obj)) (s : Shared) (Q E : Value → Shared → Prop)
    (B : Below A₀ base outer h₀) (F : Fr h₀ L s.heap m) (X₀ : Frag.In (Mine.kp w.params) h₀) (N : News h₀ L s.heap news) (T : Top p loose mean mg mb h₀) (hk : cs.kind = .function) (hd : dp + 40 < recursionLimit) (hu : un + 8 * 40 < cLine)
    (ret : ∀ x d n t u h' tk', Fr h₀ L h' m → News h₀ L h' ((x, pileObj d [] n) :: (d, pileDict w t u) :: news) → (∀ p ∈ news, p.1 < d) → d < x → Q (.ref x) { s with heap := h', toks := tk' }) :
    wpAny (model PySem.Challenge.rw_qw0042_01.row.prog w) (ktrTop dp un gd cn cs L a ccd cl outer) (call (.ref 101) []) Q E s := by
  obtain ⟨h, g, dr, t, os⟩ := s
  replace F : Fr h₀ L h m := F
  replace N : News h₀ L h news := N
  have X := X₀.keeps F.keep
  have Y := makesP_of (M := model PySem.Challenge.rw_qw0042_01.row.prog w) X
  have Y' := Y
  obtain ⟨⟨oc, od, cd, sl, hC, e1, e2, e4⟩, made, base', self, top, hcall, typ, istype⟩ := Y
  refine wpAny_call (codeAny_of_tree ?_)
  show wpAny _ _ (callAny (.ref 101) _) _ _ _
  refine nd_load hC ?_
  show wpAny _ _ (callAny.viaDunder (.ref 101) _) _ _ _
  unfold callAny.viaDunder
  refine wpAny_bind (hcall.at ?_)
  dsimp only
  rw [tc_bind]
  refine wpAny_bind (wpAny_pure (wpAny_bind (wpAny_pure ?_)))
  refine wpAny_pure (a := Fin.again (.call (.builtin "type.__call__") ⟨[.ref 101], []⟩)) (And.intro rfl ?_)
  refine codeAny_call_builtin_at (Code.quiet_builtin _ (by decide +kernel)) entry_typeCall (check_slot tc_kind tc_split typ (tc_args _ _ _) ?_)
  unfold Builtin.«type.__call__»
  have hm : Looks (model PySem.Challenge.rw_qw0042_01.row.prog w) h (mroOf (.ref 101)) cd.mro := ((Looks.ld (part := none) hC).andThen .now).andThen .now
  repeat (first | simp only [e4, Bool.false_eq_true, if_false] | with_reducible refine wpAny_call ?_ | lk)
  refine list_new_pile Y' ?_
  have k : ∀ b o, h.get? b = some o → ((h.push emptyDict).push (pileObj h.objs.size [] 0)).get? b = some o := fun b o e => Heap.get?_push_of_some _ (Heap.get?_push_of_some _ e)
  have hx : ((h.push emptyDict).push (pileObj h.objs.size [] 0)).get? (h.objs.size + 1) = some (pileObj h.objs.size [] 0) := by heap_get
  have t1 : Looks (model PySem.Challenge.rw_qw0042_01.row.prog w) ((h.push emptyDict).push (pileObj h.objs.size [] 0)) (typeOf (.ref (h.objs.size + 1))) (.ref 101) := (Looks.ld hx).andThen .now
  have s1 := self.keeps k
  have i1 := (looks_findIn (M := model PySem.Challenge.rw_qw0042_01.row.prog w) X (pile_call_slot w)).keeps k
  have b1 := (bind_fn (M := model PySem.Challenge.rw_qw0042_01.row.prog w) X (.ref (h.objs.size + 1)) (pile_init_fn w)).keeps k
  unfold isInstance callSpecial? specialOf
  repeat (fail_if_success (with_reducible show wpAny _ _ (call (.ref 38) _) _ _ _)); lk
  have F1 : Fr h₀ L ((h.push emptyDict).push (pileObj h.objs.size [] 0)) m := (F.push _).push _
  have N1 : News h₀ L ((h.push emptyDict).push (pileObj h.objs.size [] 0)) ((h.objs.size + 1, pileObj h.objs.size [] 0) :: (h.objs.size, emptyDict) :: news) := by
    have := (N.push F emptyDict).push (F.push _) (pileObj h.objs.size [] 0)
    rwa [Heap.size_push] at this
  have hw1 : (Code.builtin "type.__call__" ⟨[.ref 101], []⟩).weight ≤ 2 := by decide +kernel
  have hw2 : (Code.builtin "type.__call__" ⟨[.ref 101], []⟩).cUnits ≤ 16 := by decide +kernel
  have hne : @Ne Nat (h.objs.size + 1) h.objs.size := Nat.succ_ne_self _
  refine c_init w (h.objs.size + 1) h.objs.size hne p loose mean mg mb (dp + (Code.builtin "type.__call__" ⟨[.ref 101], []⟩).weight) (un + (Code.builtin "type.__call__" ⟨[.ref 101], []⟩).cUnits) _ cn cs a ccd cl outer A₀ base h₀ L m _ _ _ B F1 X₀
    (fun q hq => N1 q (List.mem_append.mpr (.inl hq) : q ∈ [(h.objs.size + 1, pileObj h.objs.size [] 0), (h.objs.size, emptyDict)] ++ news)) T hk (by omega) (by omega) ?_
  rintro r led' h' tk' kb F' N' ⟨n, t9, u9, rfl, m1, m2⟩
  refine wpAny_pure ?_
  refine wpAny_pure (ret (h.objs.size + 1) h.objs.size n t9 u9 h' tk' F' ?_ (fun q hq => Heap.lt_size (N q hq).1) (Nat.lt_succ_self _))
  intro q hq
  rcases List.mem_cons.mp hq with rfl | hq
  · exact N' _ m1
  · rcases List.mem_cons.mp hq with rfl | hq
    · exact N' _ m2
    · have hlt : @LT.lt Nat _ q.1 h.objs.size := Heap.lt_size (N q hq).1
      refine ⟨kb _ _ ?_ (N1 q (.tail _ (.tail _ hq))).1, (N q hq).2⟩
      intro z
      rcases List.mem_cons.mp z with z | z
      · have z' : @Eq Nat q.1 (h.objs.size + 1) := z
        omega
      · have z' : @Eq Nat q.1 h.objs.size := List.mem_singleton.mp z
        omega

theorem fresh_astr66 : True := by
  w_top off
  trivial
section
variable {prog : Program} {w : World} {A : Around} {E : Value → Shared → Prop} {s : Shared} {d x : Addr} {its : List Value} {n : Nat}
theorem seqit_item {it l : Addr} {i k : Nat} {ol : Obj} {items : Array Value} {y : Value} {Q : Option Value → Shared → Prop} (hit : s.heap.IsListIter it l i)
    (hol : s.heap.get? l = some ol) (hdl : ol.data = .seq items k) (hx : items[i]? = some y)
    (hQ : ∀ h', h'.IsListIter it l (i + 1) → Heap.SameBut it s.heap h' → Q (some y) { s with heap := h' }) :
    wpAny (model prog w) A (pyNext (.ref it)) Q E s := by
  obtain ⟨o, ho, hc, hd⟩ := id hit
  unfold pyNext
  refine wpAny_bind (wpAny_attempt (wpAny_callSpecial?_slot (name := Str.ofString "__next__") hit.typeIs slot_listiter_next
    (wpAny_call_entry slot_listiter_next hit.typeIs entry_listiter_next ?_ (args_listiter_next _))))
  show wpAny _ _ (field (.ref it) 0 >>= _) _ _ s
  refine wpAny_bind (wpAny_field ho hd (x := .ref l) rfl ?_)
  show wpAny _ _ (if (Value.ref l == Value.none) = true then _ else _) _ _ s
  rw [if_neg (show ¬ ((Value.ref l == Value.none) = true) from Bool.false_ne_true)]
  show wpAny _ _ (field (.ref it) 1 >>= _) _ _ s
  refine wpAny_bind (wpAny_field ho hd (x := .int i 0) rfl ?_)
  show wpAny _ _ (seqItems? (.ref l) >>= _) _ _ s
  refine wpAny_bind (wpAny_seqItems hol hdl ?_)
  simp only [Int.toNat_natCast, hx]
  refine wpAny_bind (wpAny_setField ho hd (by simp) (wpAny_pure ⟨y, rfl, wpAny_pure (hQ _ ?_ (Heap.SameBut.update ..))⟩))
  exact ⟨_, Heap.get?_update_self _ ho (Obj.isFreed_of_fields (Obj.data_mapFields hd _)), (Obj.cls_mapFields ..).trans hc, by
    rw [Obj.data_mapFields hd]; simp [rawInt]⟩
theorem seqit_end {it l : Addr} {i k : Nat} {ol : Obj} {items : Array Value} {Q : Option Value → Shared → Prop} (hh : A.handled = none)
    (hit : s.heap.IsListIter it l i) (hol : s.heap.get? l = some ol) (hdl : ol.data = .seq items k) (hx : items[i]? = none)
    (hQ : ∀ h', Heap.ExtBut it s.heap h' → Q none { s with heap := h' }) : wpAny (model prog w) A (pyNext (.ref it)) Q E s := by
  obtain ⟨o, ho, hc, hd⟩ := id hit
  unfold pyNext
  refine wpAny_bind (wpAny_attempt (wpAny_callSpecial?_slot (name := Str.ofString "__next__") hit.typeIs slot_listiter_next
    (wpAny_call_entry slot_listiter_next hit.typeIs entry_listiter_next ?_ (args_listiter_next _))))
  show wpAny _ _ (field (.ref it) 0 >>= _) _ _ s
  refine wpAny_bind (wpAny_field ho hd (x := .ref l) rfl ?_)
  show wpAny _ _ (if (Value.ref l == Value.none) = true then _ else _) _ _ s
  rw [if_neg (show ¬ ((Value.ref l == Value.none) = true) from Bool.false_ne_true)]
  show wpAny _ _ (field (.ref it) 1 >>= _) _ _ s
  refine wpAny_bind (wpAny_field ho hd (x := .int i 0) rfl ?_)
  show wpAny _ _ (seqItems? (.ref l) >>= _) _ _ s
  refine wpAny_bind (wpAny_seqItems hol hdl ?_)
  simp only [Int.toNat_natCast, hx]
  refine wpAny_bind (wpAny_rule (wpAny_bind (wpAny_setField ho hd (by simp) ?_)))
  show wpAny _ _ (newExc (.type "StopIteration") [] >>= _) _ _ _
  refine wpAny_bind ?_
  simp only [newExc, newTuple]
  refine wpAny_bind (wpAny_newObj_type ?_ (by size_fits))
  refine wpAny_bind (m := firstArgMember _ _) (wpAny_of_eq (a := Value.none) (by first | rfl | (simp only [firstArgMember]; rfl)) ?_)
  refine wpAny_newObj_type ?_ (by size_fits)
  simp only [raiseNew]
  refine wpAny_bind (wpAny_handled ?_)
  rw [show A.in1.handled = none from hh]
  refine wpAny_bind (wpAny_pure (wpAny_throw ?_))
  refine wpAny_bind (wpAny_isInstance (T := "StopIteration") (b := true) ⟨_, Heap.get?_push_size _ rfl, rfl⟩ isSubtype_stop ?_)
  exact wpAny_pure (hQ _ (((Heap.SameBut.update ..).extBut.push _).push _))
theorem walks_pile (hh : A.handled = none) (I ax : Addr) (hne : ax ≠ I) (ol : Obj) (items : Array Value) (nl : Nat) (hdl : ol.data = .seq items nl) (Ts : Nat → Addr) (vals : Nat → Array Value)
    (hit : ∀ j, j < items.size → items[j]? = some (.ref (Ts j))) (hTI : ∀ j, j < items.size → Ts j ≠ I) :
    WalksU prog w A I (I :: ax :: (List.range items.size).map Ts) [I] items.size (fun j v => j < items.size ∧ v = vals j)
      (fun j h => h.IsListIter I ax j ∧ h.get? ax = some ol ∧ ∀ k, k < items.size → h.IsTuple (Ts k) (vals k))
      (fun j T h => (j < items.size ∧ T = Ts j) ∧ h.IsListIter I ax (j + 1) ∧ h.get? ax = some ol ∧ ∀ k, k < items.size → h.IsTuple (Ts k) (vals k)) where
  sub := fun b hb => by simp at hb; simp [hb]
  frame := fun _ _ _ st hk => ⟨st.1.at fun o e => hk I (by simp) o e, hk ax (by simp) _ st.2.1,
    fun k hk' => (st.2.2 k hk').at fun o e => hk (Ts k) (List.mem_cons_of_mem _ (List.mem_cons_of_mem _ (List.mem_map.mpr ⟨k, List.mem_range.mpr hk', rfl⟩))) o e⟩
  item := fun i s Q E hi st hQ => by
    refine seqit_item st.1 st.2.1 hdl (y := .ref (Ts i)) (hit i hi) fun h' hit' hs' => ?_
    have tup : ∀ k, k < items.size → h'.IsTuple (Ts k) (vals k) := fun k hk' => (st.2.2 k hk').extBut hs'.extBut (hTI k hk')
    exact hQ (Ts i) (vals i) h' s.toks ⟨hi, rfl⟩ (tup i hi) ⟨⟨hi, rfl⟩, hit', hs'.extBut _ _ hne st.2.1, tup⟩ fun b o hb e => hs'.extBut b o (fun h => hb (by simp [h])) e
  go := fun _ _ _ _ _ s Q _ hm hQ => wpAny_letOwnedTupleGo_listiter hm.2.1 (hQ s.heap hm.2 fun _ _ _ e => e)
  apart := fun j T _ hm hmem => by
    rcases List.mem_cons.mp hmem with e | e
    · exact hTI j hm.1.1 (hm.1.2 ▸ e)
    · cases e
  done := fun s Q E st hQ => seqit_end hh st.1 st.2.1 hdl (by simp) fun h' he' => hQ h' s.toks fun b o hb e => he' b o (fun h => hb (by simp [h])) e
  self := fun _ _ _ _ st hQ => wpAny_pyIter_listiter st.1 hQ
theorem it_pile (w : World) : findIn (Mine.kp w.params) (.ref 101) "__iter__" = some (some (.builtin "list.__iter__")) := by kernel_rfl
theorem pile_iter {Q : Value → Shared → Prop} (X : Frag.In (Mine.kp w.params) s.heap) (ho : s.heap.get? x = some (pileObj d its n))
    (hQ : Q (.ref s.heap.objs.size) { s with heap := s.heap.push (itObj x) }) : wpAny (model prog w) A (pyIter (.ref x)) Q E s := by
  unfold pyIter
  refine wpAny_bind ((pile_special X ho (it_pile w)).here ?_)
  dsimp only
  refine wpAny_bind ?_
  unfold callSpecialIfBoundUnlessNone? bindSpecialIfBound?
  refine wpAny_holding (wpAny_bind (wpAny_bind ((pile_special X ho (it_pile w)).here ?_)))
  dsimp only
  simp only [slot_list_iter.bind]
  refine wpAny_bind (wpAny_askSetting (wpAny_ite ?_))
  have fin : wpAny (model prog w) A (call (.builtin "list.__iter__") [.ref x]) (fun v s' => v = .ref s.heap.objs.size ∧ s' = { s with heap := s.heap.push (itObj x) }) E s := by
    refine pile_call (by first | exact .inl (by decide +kernel) | exact .inr (by decide +kernel)) (nm := "__iter__") (by decide +kernel) (by decide +kernel) entry_list_iter (args_list_iter _) X ho ?_
    show wpAny _ _ (do ret (← newFields "list_iterator" [.ref x, rawInt 0])) _ _ s
    exact wpAny_bind (wpAny_newObj_type (wpAny_pure ⟨_, rfl, rfl, rfl⟩))
  have tail : ∀ {Q' : Option Value → Shared → Prop}, (Q' (some (.ref s.heap.objs.size)) { s with heap := s.heap.push (itObj x) }) → wpAny (model prog w) A (do
      let r ← call (.builtin "list.__iter__") [.ref x]
      pure (some r)) Q' E s := fun hq => wpAny_bind (wpAny_mono fin (fun v s' hv => by obtain ⟨rfl, rfl⟩ := hv; exact wpAny_pure hq) fun _ _ e => e)
  split
  · refine wpAny_bind (wpAny_pure (wpAny_pure ?_))
    simp only [builtin_beq_none, Bool.false_eq_true, if_false]
    refine tail ?_
    refine wpAny_bind (wpAny_specialOf (T := "list_iterator") ⟨_, Heap.get?_push_size _ rfl, rfl⟩ slot_listiter_next.lookup ?_)
    exact wpAny_pure hQ
  · refine wpAny_tryCatch (wpAny_bind (wpAny_pure (wpAny_pure ?_)))
    simp only [builtin_beq_none, Bool.false_eq_true, if_false]
    refine tail ?_
    refine wpAny_bind (wpAny_specialOf (T := "list_iterator") ⟨_, Heap.get?_push_size _ rfl, rfl⟩ slot_listiter_next.lookup ?_)
    exact wpAny_pure hQ
end

theorem fresh_bstr66 : True := by
  w_top off
  trivial
theorem enterB {prog : Program} {w : World} {A : Around} {s : Shared} {m mg mb : Str → Option Value} {K : Frag} {p : Program} {loose : List Str} {mean : ExcName → Option Value} {h₀ : Heap} {L : Addr}
    {R : Result → Shared → Prop} {name qual : Str} {params : Arguments} {body : List Stmt} {scope : Scope} {dV kV doc pm cdv ct oc : Value} {an od : Option Addr} {osl : Array (Option Value)} {f : Addr} {args : Args} {binds : List (Str × Value)}
    (F : Fr h₀ L s.heap m) (X₀ : K.In h₀) (T : Top p loose mean mg mb h₀)
    (ho : K.lookup f = some ⟨oc, od, .func (fnOf name qual params body scope dV kV doc pm an cdv ct), osl⟩) (hcd : codeIn K cdv qual = true) (hroom : A.depth < recursionLimit)
    (hbind : BindsTo s (fnOf name qual params body scope dV kV doc pm an cdv ct) args binds) (hloc : ∀ y ∈ binds, scope.names.lookup y.1 = some .local)
    (h : ∀ h₁, Fr s.heap s.heap.objs.size h₁ (fun y => binds.reverse.lookup y) → K.In s.heap → Top p loose mean mg mb s.heap →
      wpAny (model prog w) (A.deeper (envOf qual scope s.heap.objs.size f cdv)) (execs body (envOf qual scope s.heap.objs.size f cdv))
        (fun fl s' => R (.ok (.ret (match fl with | .ret v => v | _ => .none))) s')
        (fun e s' => wpAny (model prog w) (A.deeper (envOf qual scope s.heap.objs.size f cdv)) (leaving (envOf qual scope s.heap.objs.size f cdv) e) (fun _ s'' => R (.error e) s'') (fun e' s'' => R (.error e') s'') s')
        { s with heap := h₁, toks := s.toks + binds.length })
    (hco : scope.isCoroutine = false) (hgen : scope.isGenerator = false) (hk : scope.kind = .function) (hcell : ∀ x ∈ scope.names, x.2 ≠ .cell) : codeAny (model prog w) A (.call (.ref f) args) R s := by
  refine codeAny_call_function (fd := fnOf name qual params body scope dV kV doc pm an cdv ct) (body := body) hroom ((X₀.keeps F.keep) _ _ ho) rfl hco hgen rfl (codeRec_of (X₀.keeps F.keep) hcd) (hbind _ _ _ _ ?_)
  refine wpAny_newFunctionEnv hcell hloc (fun h₁ hns hsb => ⟨(T.nolimit.keeps F.keep).fresh _ hsb, codeAny_func ?_⟩) hk
  have hk₁ : Kept s.heap h₁ := fun b o e => hsb.extBut b o (Nat.ne_of_lt (Heap.lt_size e)) (Heap.get?_push_of_some _ e)
  exact h h₁ ⟨hns, hk₁, Nat.le_refl _⟩ (X₀.keeps F.keep) (T.keeps F.keep)
theorem tab_of_str (w : World) : codeHdIn (Mine.kp w.params) 74 70 = true := by kernel_rfl

theorem fresh_btelt66 : True := by
  w_top off
  trivial
abbrev strGen (L C c' : Addr) : Env := genEnv { kind := .function, names := [(Str.ofString ".0", .local), (Str.ofString "fws", .local), (Str.ofString "part", .local), (Str.ofString "EMPTYSTRING", .globalImplicit)], isGenerator := true, isCoroutine := false } [] C (.ref c') builtinsNs
  (envOf (Str.ofString "_Accumulator.__str__") { kind := .function, names := [(Str.ofString "self", .local), (Str.ofString "EMPTYSTRING", .globalImplicit)], isGenerator := false, isCoroutine := false } L 75 (.ref 74))
theorem str_elt {prog : Program} {w : World} {A : Around} {E : Value → Shared → Prop} {t : Shared} {L C c' : Addr} {m₂ mg : Str → Option Value} {y c : Str} {ty tc tok0 : Tok}
    (hns : t.heap.Ns C m₂) (hg : t.heap.Ns mainGlobals mg) (hv : mg (Str.ofString "EMPTYSTRING") = some (.str (Str.ofString "") tok0)) (hma : m₂ (Str.ofString "fws") = some (.str y ty)) (hmb : m₂ (Str.ofString "part") = some (.str c tc))
    (hy : y.length ≤ 1000) (hc : c.length ≤ 1000) :
    wpAny (model prog w) A (eval (.Call (.Attribute (.Name (Str.ofString "EMPTYSTRING") ⟨29, 33, 29, 44⟩) (Str.ofString "join") ⟨29, 33, 29, 49⟩) [.Tuple [.Name (Str.ofString "fws") ⟨29, 51, 29, 54⟩, .Name (Str.ofString "part") ⟨29, 56, 29, 60⟩] 0 ⟨29, 50, 29, 61⟩] [] ⟨29, 33, 29, 62⟩) (strGen L C c'))
      (fun v s' => (∃ u, v = .str (Txt.join (Str.ofString "") [y, c]) u) ∧ Keeps t s') E t := by
  refine MethodCall_ ?_
  · refine Name_function_global rfl rfl (loadGlobal_global hg hv ?_)
    refine GM.join ?_
    refine callWith_method1 ?_
    refine spliced_more ?_
    refine Tuple_ ?_
    refine spliced_more ?_
    refine wpAny_Name (wpAny_loadName_local rfl rfl hns hma ?_)
    refine spliced_more ?_
    refine wpAny_Name (wpAny_loadName_local rfl rfl hns hmb ?_)
    refine spliced_none ?_
    refine wpAny_newTuple ?_ (by show 2 ≤ sizeLine; rw [sizeLine_eq]; decide)
    refine spliced_none ?_
    refine join_tuple (ys := [y, c]) ⟨_, Heap.get?_push_size _ rfl, rfl, _, rfl⟩ (.cons _ _ (.cons _ _ .nil)) ?_ ?_
    · show y.length + (c.length + 0) + 2 * 0 ≤ 16777216
      omega
    · intro t' k; exact ⟨⟨t', rfl⟩, _, _, rfl, fun b o e => Heap.get?_push_of_some _ e⟩

theorem fresh_cstr66 : True := by
  w_top off
  trivial
def PileAre (h : Heap) (its : List Value) (cs : List Str) : Prop :=
  its.length = cs.length ∧ ∀ (j : Nat) (c : Str), cs[j]? = some c → ∃ T ty tc, its[j]? = some (.ref T) ∧ h.get? T = some ({ cls := .type "tuple", data := .seq #[.str (Str.ofString "/") ty, .str c tc] } : Obj)
noncomputable def keptOf (cs : List Str) : Str := Txt.join (Str.ofString "") (cs.map fun c => Txt.join (Str.ofString "") [Str.ofString "/", c])
abbrev pairObj (c : Str) (ty tc : Tok) : Obj := { cls := .type "tuple", data := .seq #[.str (Str.ofString "/") ty, .str c tc] }
theorem pile_choose {h : Heap} {its : List Value} {cs : List Str} (H : PileAre h its cs) : ∃ (Ts : Nat → Addr) (ty tc : Nat → Tok), ∀ j, j < its.length → its[j]? = some (.ref (Ts j)) ∧ h.get? (Ts j) = some (pairObj (cs.getD j (Str.ofString "")) (ty j) (tc j)) := by
  have : ∀ j : Nat, ∃ q : Addr × Tok × Tok, j < its.length → its[j]? = some (.ref q.1) ∧ h.get? q.1 = some (pairObj (cs.getD j (Str.ofString "")) q.2.1 q.2.2) := by
    intro j
    by_cases hj : j < its.length
    · have hj' : j < cs.length := H.1 ▸ hj
      obtain ⟨T, ty, tc, e1, e2⟩ := H.2 j cs[j] (List.getElem?_eq_getElem hj')
      refine ⟨(T, ty, tc), fun _ => ⟨e1, ?_⟩⟩
      rw [List.getD_eq_getElem?_getD, List.getElem?_eq_getElem hj']
      exact e2
    · exact ⟨(0, 0, 0), fun q => absurd q hj⟩
  obtain ⟨f, hf⟩ := Classical.skolem.mp this
  exact ⟨fun j => (f j).1, fun j => (f j).2.1, fun j => (f j).2.2, hf⟩
theorem str_classed (w : World) : kb_classed (Mine.kp w.params) = true := by kernel_rfl
theorem str_empty (w : World) : nsIn (Mine.kp w.params) mainGlobals (Str.ofString "EMPTYSTRING") = some (some (.str (Str.ofString "") 196)) := by kernel_rfl
theorem piece_len (c : Str) : (Txt.join (Str.ofString "") [Str.ofString "/", c]).length ≤ 1 + c.length := by
  have h := StrLaws.join_length_le (Str.ofString "") [Str.ofString "/", c]
  have e : Txt.join (Str.ofString "") [Str.ofString "/", c] = Str.join (Str.ofString "") [Str.ofString "/", c] := StrLaws.glued_eq_join _ _
  rw [e]
  have e0 : (Str.ofString "").length = 0 := by decide +kernel
  have e1 : (Str.ofString "/").length = 1 := by decide +kernel
  simp only [List.map_cons, List.map_nil, List.sum_cons, List.sum_nil, List.length_cons, List.length_nil, e0, e1, Nat.mul_zero, Nat.add_zero] at h
  exact h
theorem pieces_fit {cs : List Str} (hz : cs.length ≤ 1000) (hcl : ∀ c ∈ cs, c.length ≤ 1000) : ((cs.map fun c => Txt.join (Str.ofString "") [Str.ofString "/", c]).map (·.length)).sum + (cs.map fun c => Txt.join (Str.ofString "") [Str.ofString "/", c]).length * (Str.ofString "").length ≤ 16777216 := by
  have h := sum_len_le (k := 1001) (cs.map fun c => Txt.join (Str.ofString "") [Str.ofString "/", c]) (fun a ha => by
    obtain ⟨c, hc, rfl⟩ := List.mem_map.mp ha
    have := piece_len c
    have := hcl c hc
    omega)
  have e0 : (Str.ofString "").length = 0 := by decide +kernel
  rw [e0, Nat.mul_zero, Nat.add_zero]
  rw [List.length_map] at h
  have : cs.length * 1001 ≤ 1000 * 1001 := Nat.mul_le_mul_right _ hz
  omega
theorem c_str (w : World) (p : Program) (loose : List Str) (mean : ExcName → Option Value) (mg mb : Str → Option Value) (dp un : Nat) (gd : Option (List Code)) (cn : Str) (sc : Scope) (a : Addr) (ccd : Value) (cl : List (Str × Addr)) (outer : List Env) (A₀ : Around) (base h₀ : Heap) (L : Addr) (m : Str → Option Value) (s : Shared) (Q E : Value → Shared → Prop)
    (x d : Addr) (its : List Value) (n : Nat) (cs : List Str)
    (F : Fr h₀ L s.heap m) (X₀ : Frag.In (Mine.kp w.params) h₀) (T : Top p loose mean mg mb h₀) (hk : sc.kind = .function) (hd : dp + 40 < recursionLimit) (hu : un + 8 * 40 < cLine)
    (hx : s.heap.get? x = some (pileObj d its n)) (hP : s.heap.get? 70 = some (tabObj #[])) (hA : PileAre s.heap its cs) (hG : AllBare s.gens) (hz : its.length ≤ 1000) (hcl : ∀ c ∈ cs, c.length ≤ 1000)
    (ret : ∀ t' s', (∀ b o, b ≠ 70 → s.heap.get? b = some o → s'.heap.get? b = some o) → s'.os = s.os → AllBare s'.gens → (∃ ps, s'.heap.get? 70 = some (tabObj ps)) → Q (.str (keptOf cs) t') s') :
    wpAny (model PySem.Challenge.rw_qw0042_01.row.prog w) (ktrTop dp un gd cn sc L a ccd cl outer) (call (.ref 75) [.ref x]) Q E s := by
  revert X₀
  k_fill
  intro X₀
  refine wpAny_call ?_
  k_dflt (refine' enterB (binds := [(Str.ofString "self", .ref x)]) ?k1 ?k2 ?k3 ?k6 ?k7 ?k8 ?k9 ?kB ?_ ?c2 ?c3 ?c4 ?c5; (case k1 => exact F); (case k2 => exact X₀); (case k3 => exact T); (case k6 => k_is); (case k7 => k_is); (case k8 => ktr_room); (case k9 => exact BindsTo.of_eq rfl); (case kB => exact locs rfl); (case c5 => decide); (case c2 => exact rfl); (case c3 => exact rfl); (case c4 => exact rfl))
  intro h₁ F1 X1 T1
  (try dsimp only)
  k_steps
  have hC := codeHd_of_K X1 (tab_of_str w)
  have hB : Based s.heap s.heap 74 70 #[] := Based.start (hC.code hP trivial) (hC.tab hP) (by decide)
  obtain ⟨bm, ob, M⟩ := bmod_of_top T1
  obtain ⟨Ts, ty, tc, hTs⟩ := pile_choose hA
  refine GeneratorExp_rowsTF (L := s.heap.objs.size) (cl := []) (m := fun y => List.lookup y [(Str.ofString "self", Value.ref x)].reverse) hB M ?hcode ?hnf ?hh ?hco ?hclos ?hcell ?h0 ?hxa ?hxb ?hab ?hkind ?hroom ?hh1 ?hs
  case hcode => with_unfolding_all rfl
  case hnf => with_unfolding_all rfl
  case hh => with_unfolding_all rfl
  case hco => with_unfolding_all rfl
  case hclos => with_unfolding_all rfl
  case hcell => decide
  case h0 => with_unfolding_all rfl
  case hxa => with_unfolding_all rfl
  case hxb => with_unfolding_all rfl
  case hab => decide
  case hkind => with_unfolding_all rfl
  case hroom => ktr_room
  case hs => intro _; with_unfolding_all rfl
  case hh1 =>
    k_steps
    have hlt : x < s.heap.objs.size := Heap.lt_size hx
    have hItL : ∀ j, j < its.length → Ts j < s.heap.objs.size := fun j hj => Heap.lt_size (hTs j hj).2
    refine pile_iter (x := x) (d := d) (its := its) (n := n) (X1.keeps F1.keep) (F1.keep _ _ hx) ?_
    have up : ∀ b o, h₁.get? b = some o → (h₁.push (itObj x)).get? b = some o := fun b o e => Heap.get?_push_of_some _ e
    have hIL : s.heap.objs.size < h₁.objs.size := F1.ns.lt
    refine ⟨F1.keeps up, hG, T1.nolimit.keeps (fun b o e => up b o (F1.keep b o e)), s.heap.objs.size, h₁.objs.size, _, [h₁.objs.size], its.toArray.size, _, _, _, fun _ => true, fun i y => ∃ u, y = .str (Txt.join (Str.ofString "") [Str.ofString "/", cs.getD i (Str.ofString "")]) u, Nat.le_refl _, ?_, rfl,
      fun A' hA' => walks_pile hA' h₁.objs.size x (Nat.ne_of_lt (Nat.lt_trans hlt hIL)) (pileObj d its n) its.toArray n rfl Ts (fun j => #[.str (Str.ofString "/") (ty j), .str (cs.getD j (Str.ofString "")) (tc j)]) (fun j hj => by simpa using (hTs j (by simpa using hj)).1) (fun j hj => Nat.ne_of_lt (Nat.lt_trans (hItL j (by simpa using hj)) hIL)),
      ?_, ?_, ?_, ?_, ?_, ?_, ?_, ?_⟩
    · show s.heap.objs.size < (h₁.push _).objs.size
      rw [Heap.size_push]; exact Nat.lt_succ_of_lt hIL
    · rintro i vals ⟨_, rfl⟩; exact ⟨_, _, rfl⟩
    · refine ⟨⟨_, Heap.get?_push_size _ rfl, rfl, rfl⟩, up _ _ (F1.keep _ _ hx), fun k hk9 => ⟨_, up _ _ (F1.keep _ _ (hTs k (by simpa using hk9)).2), rfl, _, rfl⟩⟩
    · intro b hb
      show b < (h₁.push _).objs.size
      rw [Heap.size_push]
      rcases List.mem_cons.mp hb with rfl | hb
      · exact Nat.lt_succ_self _
      · rcases List.mem_cons.mp hb with rfl | hb
        · exact Nat.lt_succ_of_lt (Nat.lt_trans hlt hIL)
        · obtain ⟨j, hj, rfl⟩ := List.mem_map.mp hb
          exact Nat.lt_succ_of_lt (Nat.lt_trans (hItL j (by simpa using List.mem_range.mp hj)) hIL)
    · intro hb
      rcases List.mem_cons.mp hb with e | hb
      · exact absurd (Heap.lt_size hP) (by rw [e]; exact Nat.not_lt.mpr (Nat.le_of_lt hIL))
      · rcases List.mem_cons.mp hb with e | hb
        · rw [← e, hP] at hx; cases hx
        · obtain ⟨j, hj, e⟩ := List.mem_map.mp hb
          have := (hTs j (by simpa using List.mem_range.mp hj)).2
          rw [e, hP] at this; cases this
    · intro b hb
      rw [List.mem_singleton.mp hb]; exact hIL
    · intro c' C A' E' i va vb t m₂ _ _ _ _ _ _ _ _ _
      exact wpAny_pure ⟨rfl, t.heap, t.toks, rfl, fun _ _ e => e⟩
    · rintro c' C A' E' i va vb t m₂ hh' hdp' hun' ⟨hi, hv⟩ _ F2 hma hmb hLC hk2
      obtain ⟨rfl, rfl⟩ : va = .str (Str.ofString "/") (ty i) ∧ vb = .str (cs.getD i (Str.ofString "")) (tc i) := by simpa using congrArg Array.toList hv
      have X2 : Frag.In (Mine.kp w.params) (regrown s.heap 70 (#[] ++ #[rawInt ((29 : Nat) : Int), rawInt ((32 : Nat) : Int), Value.ref c'])) := kb_in_regrown hB X1 T1.g (str_classed w)
      have T2 := LGe.top_regrown F2 (topRead_of T1) hB
      have hg2 := T2.g.keeps F2.keep
      have hv2 : mg (Str.ofString "EMPTYSTRING") = some (.str (Str.ofString "") 196) := mg_of X2 T2.g (str_empty w)
      refine wpAny_mono (str_elt (L := s.heap.objs.size) F2.ns hg2 hv2 hma hmb (by decide +kernel) ?_) (fun _ _ h => h) fun _ _ h => h
      have hi' : i < its.length := by simpa using hi
      have hj' : i < cs.length := hA.1 ▸ hi'
      rw [List.getD_eq_getElem?_getD, List.getElem?_eq_getElem hj']
      exact hcl _ (List.getElem_mem hj')
    · intro c' g s₅ B5 F5 G5 ho5 hk5 X5
      have hp9 : passing (fun _ => true) its.toArray.size 0 = List.range its.length := by simp [passing]
      rw [hp9] at X5
      have hl9 : (List.range its.length).length = cs.length := by rw [List.length_range]; exact hA.1
      rw [hl9] at X5
      have hmap : (List.range cs.length).map (fun j => Txt.join (Str.ofString "") [Str.ofString "/", cs.getD j (Str.ofString "")]) = cs.map fun c => Txt.join (Str.ofString "") [Str.ofString "/", c] := by
        have := congrArg (List.map fun c => Txt.join (Str.ofString "") [Str.ofString "/", c]) (range_getD cs (Str.ofString ""))
        rw [List.map_map] at this
        exact this
      refine spliced_none ?_
      show wpAny _ _ (call (.builtin "str.join") [.str (Str.ofString "") 196, .ref g]) _ _ _
      refine join_rowsK F5 G5 X5 (Nat.le_refl _) (fun j => Txt.join (Str.ofString "") [Str.ofString "/", cs.getD j (Str.ofString "")]) ?_ ?_ ?_ (by rw [sizeLine_eq]; have := hA.1; omega)
      · rintro j v ⟨i, hi, u, rfl⟩
        obtain ⟨hj, e⟩ := List.getElem?_eq_some_iff.mp hi
        rw [List.getElem_range] at e
        exact ⟨u, by rw [← e]⟩
      · rw [hmap]
        exact joinOk_of (pieces_fit (by have := hA.1; omega) hcl)
      · intro s' t' F6 G6 ho6 hk6
        rw [hmap]
        exact ret t' s' (fun b o hb e => hk6 b o (Nat.le_of_lt (Heap.lt_size e)) (hk5 b o hb (up _ _ (F1.keep _ _ e)))) (ho6.trans ho5) G6 ⟨_, F6.keep _ _ B5.tab.2⟩

theorem fresh_lists67 : True := by
  w_top off
  trivial
section
variable {prog : Program} {w : World} {A : Around} {E : Value → Shared → Prop} {s : Shared} {h₀ : Heap} {L l : Addr} {news : List (Addr × Obj)}
theorem len_K {us : List Value} {n : Nat} {Q : Value → Shared → Prop} (N : News h₀ L s.heap news) (hm : (l, listOf us.toArray n) ∈ news) (hz : us.length ≤ 100000) (h : Q (.int us.length (s.toks + 1)) { s with toks := s.toks + 1 + 1 }) :
    wpAny (model prog w) A (call (.builtin "len") [.ref l]) Q E s :=
  len_list (items := us.toArray) ⟨_, (N _ hm).1, rfl, n, rfl⟩ (by rw [List.size_toArray]; omega) (by rw [List.size_toArray]; exact h)
theorem countIn_strs (k : Str) : ∀ ys : List Str, PySem.Spec.countIn (.str k) (ys.map PyData.str) = ((ys.countP (fun y => y == k) : Nat) : Int)
  | [] => rfl
  | y :: ys => by
    rw [List.map_cons, PySem.Spec.countIn, countIn_strs k ys, List.countP_cons]
    simp only [PySem.Spec.same]
    rcases Bool.eq_false_or_eq_true (y == k) with hb | hb <;> simp only [hb, Bool.false_eq_true, if_true, if_false] <;> push_cast <;> omega
theorem count_K {us : List Value} {n : Nat} {ys : List Str} {k : Str} {t : Tok} {Q : Value → Shared → Prop} (N : News h₀ L s.heap news) (hm : (l, listOf us.toArray n) ∈ news) (hS : StrsAre us ys)
    (h : Q (.int ((ys.countP (fun y => y == k) : Nat) : Int) s.toks) { s with toks := s.toks + 1 }) : wpAny (model prog w) A (call (.builtin "list.count") [.ref l, .str k t]) Q E s :=
  count_list_strs ⟨_, (N _ hm).1, rfl, n, rfl⟩ hS (by rw [countIn_strs]; exact h)
end

theorem lines_zlists67 : True := by
  k_with "call builtin:len" => (k_here; (try simp only [List.cons_append, List.nil_append]); (with_reducible show wpAny _ _ (call (Value.builtin "len") [Value.ref _]) _ _ _); with_reducible (refine' len_K ?kN'w ?km'w ?kz'w ?_; (case kN'w => assumption); (case km'w => with_reducible_and_instances k_mem); (case kz'w => first | omega | (simp only [List.length_append, List.length_cons, List.length_nil]; omega)); k_whole))
  k_with "call builtin:len nil" => (k_here; (try simp only [List.cons_append, List.nil_append]); (with_reducible show wpAny _ _ (call (Value.builtin "len") [Value.ref _]) _ _ _); with_reducible (refine' len_K ?kN'w ?km'w ?kz'w ?_; (case kN'w => assumption); (case km'w => with_reducible_and_instances k_mem); (case kz'w => first | omega | (simp only [List.length_append, List.length_cons, List.length_nil]; omega)); k_whole))
  k_with "call builtin:list.count nil" => (k_here; (try simp only [List.cons_append, List.nil_append]); (with_reducible show wpAny _ _ (call (Value.builtin "list.count") [Value.ref _, Value.str _ _]) _ _ _); with_reducible (refine' count_K ?kN'w ?km'w ?kS'w ?_; (case kN'w => assumption); (case km'w => with_reducible_and_instances k_mem); (case kS'w => assumption); k_whole))
  trivial

theorem fresh_loops68 : True := by
  w_top off
  trivial
section
variable {prog : Program} {w : World} {A : Around} {E : Value → Shared → Prop} {s : Shared} {env : Env} {h₀ : Heap} {x : Str} {body : List Stmt} {Q : Flow → Shared → Prop}
/-- a grown list of texts, all else of the ledger stands -/
def LiS (S : Addr) (rest : List (Addr × Obj)) (x : Str) (m₀ : Str → Option Value) (acc : List Str) (m : Str → Option Value) (nx : List (Addr × Obj)) : Prop :=
  ∃ us n, nx = (S, listOf us.toArray n) :: rest ∧ StrsAre us acc ∧ ∀ z, z ≠ x → m z = m₀ z
theorem li_loop {S D : Addr} {rest all : List (Addr × Obj)} {vs us₀ : List Value} {nn n₀ : Nat} {ns : List Int} {acc₀ : List Str} {m₀ : Str → Option Value} (f : List Str → Int → List Str)
    (hh : A.handled = none) (F : Fr h₀ env.locals s.heap m₀) (N : News h₀ env.locals s.heap all) (hsub : ∀ p ∈ (S, listOf us₀.toArray n₀) :: rest, p ∈ all) (hl : (D, listOf vs.toArray nn) ∈ rest) (hvs : IntsAre vs ns) (h0 : StrsAre us₀ acc₀)
    (turn : ∀ i k t us acc n (sT : Shared) own, ns[i]? = some k → acc = (ns.take i).foldl f acc₀ → StrsAre us acc → OwnOff own (S :: rest.map (·.1)) → Fr h₀ env.locals sT.heap (fun y => if y = x then some (.int k t) else m₀ y) →
      News h₀ env.locals sT.heap ((S, listOf us.toArray n) :: (rest ++ own)) →
      wpAny (model prog w) A (execs body env) (InvPostG h₀ env.locals (LiS S rest x m₀ (f acc k)) own sT (fun _ _ => False)) (fun _ _ => False) sT)
    (done : ∀ (u : Str → Option Value) us n (sD : Shared), sD.gens = s.gens → sD.os = s.os → StrsAre us (ns.foldl f acc₀) → Fr h₀ env.locals sD.heap (fun y => if y = x then u y else m₀ y) → News h₀ env.locals sD.heap ((S, listOf us.toArray n) :: rest) → Q .next sD) :
    wpAny (model prog w) A (pyIter (.ref D)) (fun it s₂ => LoopAtV prog w A h₀ env x body Q E it s₂) E s := by
  have hlen : vs.length = ns.length := hvs.length
  refine kdl_iter (l := D) (vs := vs) (nn := nn) (news := (S, listOf us₀.toArray n₀) :: rest) (fun i m nx => LiS S rest x m₀ ((ns.take i).foldl f acc₀) m nx) hh (.tail _ hl) F (fun p hp => N p (hsub p hp)) ⟨us₀, n₀, rfl, by simpa using h0, fun _ _ => rfl⟩ ?_ ?_
  · rintro i v m₁ nx h tk own hv hoff _ ⟨us, n, rfl, hS, hm⟩ F₁ N₁
    obtain ⟨k, t, rfl, hc⟩ := IntsAre.at hvs i v hv
    have hs : (ns.take (i + 1)).foldl f acc₀ = f ((ns.take i).foldl f acc₀) k := by rw [List.take_add_one, hc]; simp
    rw [map_none hm] at F₁
    rw [hs]
    refine wpAny_mono (turn i k t us _ n { s with heap := h, toks := tk } own hc rfl hS hoff F₁ N₁) (fun fl s₂ p => ?_) fun _ _ e => e.elim
    have up : InvEndG h₀ env.locals (LiS S rest x m₀ (f ((ns.take i).foldl f acc₀) k)) own { s with heap := h, toks := tk } s₂ →
        InvEndG h₀ env.locals (fun m' nx => (D, listOf vs.toArray nn) ∈ nx ∧ LiS S rest x m₀ (f ((ns.take i).foldl f acc₀) k) m' nx) own { s with heap := h, toks := tk } s₂ := by
      rintro ⟨h', tk', m', news', nx, e, F', N', hn, ho, ha, hJ⟩
      refine ⟨h', tk', m', news', nx, e, F', N', hn, ho, ha, ?_, hJ⟩
      obtain ⟨us', n', rfl, _, _⟩ := hJ
      exact .tail _ hl
    cases fl with
    | ret v => exact (show False from p).elim
    | brk => exact (show False from p).elim
    | next => exact up p
    | cont => exact up p
  · rintro m₁ nx h tk ⟨us, n, rfl, hS, hm⟩ F₁ N₁
    rw [hlen, List.take_length] at hS
    exact done m₁ us n { s with heap := h, toks := tk } rfl rfl hS (by rw [done_none hm]; exact F₁) N₁
theorem li_end {L S : Addr} {us : List Value} {n : Nat} {rest own : List (Addr × Obj)} {m₀ m' : Str → Option Value} {acc : List Str} {s₁ : Shared} {h' : Heap} {tk : Nat}
    (F : Fr h₀ L h' m') (N : News h₀ L h' ((S, listOf us.toArray n) :: (rest ++ own))) (hS : StrsAre us acc) (hm : ∀ z, z ≠ x → m' z = m₀ z) (hoff : OwnOff own (S :: rest.map (·.1))) :
    InvEndG h₀ L (LiS S rest x m₀ acc) own s₁ { s₁ with heap := h', toks := tk } :=
  InvEndG.intro F N ⟨us, n, rfl, hS, hm⟩ hoff (fun p hp => by
    rcases List.mem_cons.mp hp with rfl | hp
    · exact .head _
    · exact .tail _ (List.mem_append.mpr (.inl hp))) fun p hp => .tail _ (List.mem_append.mpr (.inr hp))

/-- the accumulator's pairs stand in the ledger -/
def PileIn (tups : List (Addr × Obj)) (its : List Value) (cs : List Str) : Prop :=
  its.length = cs.length ∧ ∀ (j : Nat) (c : Str), cs[j]? = some c → ∃ T ty tc, its[j]? = some (.ref T) ∧ (T, pairObj c ty tc) ∈ tups
def PlS (x d : Addr) (rest : List (Addr × Obj)) (y : Str) (m₀ : Str → Option Value) (acc : List Str) (m : Str → Option Value) (nx : List (Addr × Obj)) : Prop :=
  ∃ its n tups, nx = (x, pileObj d its n) :: (rest ++ tups) ∧ PileIn tups its acc ∧ OwnOff tups (x :: rest.map (·.1)) ∧ ∀ z, z ≠ y → m z = m₀ z
theorem pl_loop {px pd D : Addr} {rest all : List (Addr × Obj)} {vs its₀ : List Value} {nn n₀ : Nat} {ss acc₀ : List Str} {m₀ : Str → Option Value} (f : List Str → Str → List Str)
    (hh : A.handled = none) (F : Fr h₀ env.locals s.heap m₀) (N : News h₀ env.locals s.heap all) (hsub : ∀ p ∈ (px, pileObj pd its₀ n₀) :: rest, p ∈ all) (hl : (D, listOf vs.toArray nn) ∈ rest) (hvs : StrsAre vs ss) (h0 : PileIn [] its₀ acc₀)
    (turn : ∀ i c t its acc n tups (sT : Shared) own tl, ss[i]? = some c → acc = (ss.take i).foldl f acc₀ → PileIn tups its acc → OwnOff own (px :: (rest ++ tups).map (·.1)) → OwnOff tups (px :: rest.map (·.1)) → (∀ p ∈ tups, p ∈ tl) → (∀ p ∈ own, p ∈ tl) → OwnOff tl (px :: rest.map (·.1)) → Fr h₀ env.locals sT.heap (fun y => if y = x then some (.str c t) else m₀ y) →
      News h₀ env.locals sT.heap ((px, pileObj pd its n) :: (rest ++ tl)) →
      wpAny (model prog w) A (execs body env) (InvPostG h₀ env.locals (PlS px pd rest x m₀ (f acc c)) own sT (fun _ _ => False)) (fun _ _ => False) sT)
    (done : ∀ (u : Str → Option Value) its n tups (sD : Shared), sD.gens = s.gens → sD.os = s.os → PileIn tups its (ss.foldl f acc₀) → OwnOff tups (px :: rest.map (·.1)) → Fr h₀ env.locals sD.heap (fun y => if y = x then u y else m₀ y) → News h₀ env.locals sD.heap ((px, pileObj pd its n) :: (rest ++ tups)) → Q .next sD) :
    wpAny (model prog w) A (pyIter (.ref D)) (fun it s₂ => LoopAtV prog w A h₀ env x body Q E it s₂) E s := by
  have hlen : vs.length = ss.length := hvs.length
  refine kdl_iter (l := D) (vs := vs) (nn := nn) (news := (px, pileObj pd its₀ n₀) :: rest) (fun i m nx => PlS px pd rest x m₀ ((ss.take i).foldl f acc₀) m nx) hh (.tail _ hl) F (fun p hp => N p (hsub p hp)) ⟨its₀, n₀, [], by rw [List.append_nil], by simpa using h0, fun _ h => (nomatch h), fun _ _ => rfl⟩ ?_ ?_
  · rintro i v m₁ nx h tk own hv hoff _ ⟨its, n, tups, rfl, hP, ht, hm⟩ F₁ N₁
    obtain ⟨c, t, rfl, hc⟩ := StrsAre.item hvs i v hv
    have hs : (ss.take (i + 1)).foldl f acc₀ = f ((ss.take i).foldl f acc₀) c := by rw [List.take_add_one, hc]; simp
    rw [map_none hm] at F₁
    rw [List.cons_append, List.append_assoc] at N₁
    rw [hs]
    refine wpAny_mono (turn i c t its _ n tups { s with heap := h, toks := tk } own (tups ++ own) hc rfl hP hoff ht (fun p hp => List.mem_append.mpr (.inl hp)) (fun p hp => List.mem_append.mpr (.inr hp)) (fun p hp b hb => by
      rcases List.mem_append.mp hp with hp | hp
      · exact ht p hp b hb
      · refine hoff p hp b ?_
        rcases List.mem_cons.mp hb with rfl | hb
        · exact .head _
        · obtain ⟨q, hq, rfl⟩ := List.mem_map.mp hb
          exact .tail _ (List.mem_map.mpr ⟨q, List.mem_append.mpr (.inl hq), rfl⟩)) F₁ N₁) (fun fl s₂ p => ?_) fun _ _ e => e.elim
    have up : InvEndG h₀ env.locals (PlS px pd rest x m₀ (f ((ss.take i).foldl f acc₀) c)) own { s with heap := h, toks := tk } s₂ →
        InvEndG h₀ env.locals (fun m' nx => (D, listOf vs.toArray nn) ∈ nx ∧ PlS px pd rest x m₀ (f ((ss.take i).foldl f acc₀) c) m' nx) own { s with heap := h, toks := tk } s₂ := by
      rintro ⟨h', tk', m', news', nx, e, F', N', hn, ho, ha, hJ⟩
      refine ⟨h', tk', m', news', nx, e, F', N', hn, ho, ha, ?_, hJ⟩
      obtain ⟨its', n', tups', rfl, _⟩ := hJ
      exact .tail _ (List.mem_append.mpr (.inl hl))
    cases fl with
    | ret v => exact (show False from p).elim
    | brk => exact (show False from p).elim
    | next => exact up p
    | cont => exact up p
  · rintro m₁ nx h tk ⟨its, n, tups, rfl, hP, ht, hm⟩ F₁ N₁
    rw [hlen, List.take_length] at hP
    exact done m₁ its n tups { s with heap := h, toks := tk } rfl rfl hP ht (by rw [done_none hm]; exact F₁) N₁
theorem pile_in_nil : PileIn [] [] [] := ⟨rfl, fun j c h => by simp at h⟩
theorem pile_in_pop {tups : List (Addr × Obj)} {p : List Value} {y : Value} {cs : List Str} (h : PileIn tups (p ++ [y]) cs) : PileIn tups p cs.dropLast := by
  have hl : cs.length = p.length + 1 := by have := h.1; simpa using this.symm
  refine ⟨by simp [hl], fun j c hj => ?_⟩
  have hj' : j < cs.dropLast.length := (List.getElem?_eq_some_iff.mp hj).1
  have hjl : j < p.length := by simpa [hl] using hj'
  have e : cs[j]? = some c := by
    rw [← hj, List.getElem?_dropLast, if_pos (by omega)]
  obtain ⟨T, ty, tc, e1, e2⟩ := h.2 j c e
  exact ⟨T, ty, tc, by rwa [List.getElem?_append_left hjl] at e1, e2⟩
theorem pile_in_push {tups : List (Addr × Obj)} {its : List Value} {cs : List Str} {T : Addr} {c : Str} {ty tc : Tok} (h : PileIn tups its cs) : PileIn ((T, pairObj c ty tc) :: tups) (its ++ [.ref T]) (cs ++ [c]) := by
  refine ⟨by simp [h.1], fun j c' hj => ?_⟩
  by_cases hlt : j < cs.length
  · rw [List.getElem?_append_left hlt] at hj
    obtain ⟨T', ty', tc', e1, e2⟩ := h.2 j c' hj
    exact ⟨T', ty', tc', by rw [List.getElem?_append_left (h.1 ▸ hlt)]; exact e1, .tail _ e2⟩
  · have hj' : j = cs.length := by
      have := (List.getElem?_eq_some_iff.mp hj).1
      simp at this; omega
    subst hj'
    have : c' = c := by simpa using hj.symm
    subst this
    exact ⟨T, ty, tc, by rw [← h.1]; simp, .head _⟩
theorem pile_in_take {tups : List (Addr × Obj)} {its : List Value} {cs : List Str} (h : PileIn tups its cs) (k : Nat) : PileIn tups (its.take k) (cs.take k) := by
  refine ⟨by simp [h.1], fun j c hj => ?_⟩
  rw [List.getElem?_take] at hj
  split at hj
  · rename_i hk
    obtain ⟨T, ty, tc, e1, e2⟩ := h.2 j c hj
    exact ⟨T, ty, tc, by rw [List.getElem?_take, if_pos hk]; exact e1, e2⟩
  · cases hj
theorem pile_in_are {L : Addr} {h : Heap} {news tups : List (Addr × Obj)} {its : List Value} {cs : List Str} (N : News h₀ L h news) (hs : ∀ p ∈ tups, p ∈ news) (H : PileIn tups its cs) : PileAre h its cs :=
  ⟨H.1, fun j c hj => let ⟨T, ty, tc, e1, e2⟩ := H.2 j c hj; ⟨T, ty, tc, e1, (N _ (hs _ e2)).1⟩⟩
theorem pl_end {L px pd : Addr} {its : List Value} {n : Nat} {rest tups own news' : List (Addr × Obj)} {m₀ m' : Str → Option Value} {acc : List Str} {s₁ : Shared} {h' : Heap} {tk : Nat}
    (F : Fr h₀ L h' m') (N : News h₀ L h' news') (h1 : (px, pileObj pd its n) ∈ news') (h2 : ∀ p ∈ rest, p ∈ news') (h3 : ∀ p ∈ tups, p ∈ news') (h4 : ∀ p ∈ own, p ∈ news') (hP : PileIn tups its acc) (ht : OwnOff tups (px :: rest.map (·.1))) (hm : ∀ z, z ≠ x → m' z = m₀ z) (hoff : OwnOff own (px :: (rest ++ tups).map (·.1))) :
    InvEndG h₀ L (PlS px pd rest x m₀ acc) own s₁ { s₁ with heap := h', toks := tk } :=
  InvEndG.intro F N ⟨its, n, tups, rfl, hP, ht, hm⟩ hoff (fun p hp => by
    rcases List.mem_cons.mp hp with rfl | hp
    · exact h1
    · rcases List.mem_append.mp hp with hp | hp
      · exact h2 p hp
      · exact h3 p hp) h4
/-- a loop over range(n) -/
theorem rg_loop {r : Addr} {b₀ : Int} {t₀ u₀ v₀ : Tok} {n : Nat} {m₀ : Str → Option Value} {all news : List (Addr × Obj)} (J : Nat → (Str → Option Value) → List (Addr × Obj) → Prop)
    (hh : A.handled = none) (hr : IsRange s.heap r 0 b₀ 1 t₀ u₀ v₀) (hsmall : Builtin.Range.small 0 b₀ 1 = true) (hsz : Builtin.Range.rangeSize 0 b₀ 1 = (n : Int)) (F : Fr h₀ env.locals s.heap m₀) (N : News h₀ env.locals s.heap all) (hsub : ∀ p ∈ news, p ∈ all) (hj : J 0 m₀ news)
    (turn : ∀ i t m₁ nx (sT : Shared) own, i < n → OwnOff own (nx.map (·.1)) → J i m₁ nx → Fr h₀ env.locals sT.heap (fun y => if y = x then some (.int (i : Int) t) else m₁ y) → News h₀ env.locals sT.heap (nx ++ own) →
      wpAny (model prog w) A (execs body env) (InvPostG h₀ env.locals (J (i + 1)) own sT (fun _ _ => False)) (fun _ _ => False) sT)
    (done : ∀ m₁ nx (sD : Shared), sD.gens = s.gens → sD.os = s.os → J n m₁ nx → Fr h₀ env.locals sD.heap m₁ → News h₀ env.locals sD.heap nx → Q .next sD) :
    wpAny (model prog w) A (pyIter (.ref r)) (fun it s₂ => LoopAtV prog w A h₀ env x body Q E it s₂) E s := by
  refine wpAny_pyIter_range hr hsmall ?_
  have W : Walks prog w A s.heap.objs.size [s.heap.objs.size] [s.heap.objs.size] n (fun i v => i < n ∧ ∃ t, v = .int (0 + i * 1) t)
      (fun i h => IsRangeIter h s.heap.objs.size (0 + (i : Nat) * 1) ((n : Int) - (i : Nat)) 1) := (Walks.range hh _ 0 1 n).bound
  refine kdr_loop J W (fun _ h => h) (fun _ h => h) ?_ ?_ ?_ ?_ (by show IsRangeIter _ _ _ _ _; rw [hsz]; simpa using Heap.get?_push_size _ rfl) (F.push _) (fun p hp => ⟨Heap.get?_push_of_some _ (N p (hsub p hp)).1, (N p (hsub p hp)).2⟩) hj ?_ ?_
  · intro i h hi b hb
    rw [List.mem_singleton.mp hb]
    exact ⟨_, hi⟩
  · intro hm
    exact absurd F.ns.lt ((List.mem_singleton.mp hm) ▸ Nat.lt_irrefl _)
  · intro b hb
    rw [List.mem_singleton.mp hb]
    exact next_is_new F
  · intro p hp hI
    exact absurd (Heap.lt_size (N p (hsub p hp)).1) ((List.mem_singleton.mp hI) ▸ Nat.lt_irrefl _)
  · rintro i v m₁ nx h tk own hi ⟨_, t, rfl⟩ hoff hJ F₁ N₁
    have e1 : (0 : Int) + (i : Int) * 1 = (i : Int) := by omega
    rw [e1] at F₁
    refine wpAny_mono (turn i t m₁ nx { s with heap := h, toks := tk } own hi hoff hJ F₁ N₁) (fun fl s₂ p => ?_) fun _ _ e => e.elim
    cases fl with
    | ret v => exact (show False from p).elim
    | brk => exact (show False from p).elim
    | next => exact p
    | cont => exact p
  · intro m₁ nx h tk hJ F₁ N₁
    exact done m₁ nx { s with heap := h, toks := tk } rfl rfl hJ F₁ N₁
end

theorem fresh_ring69 : True := by
  w_top off
  trivial
/-- the next list of steps -/
noncomputable def ringStep (acc : List Str) (k : Int) : List Str := acc ++ [if k % 3 = 0 then Str.ofString ".." else ⟨#[(97 + (acc.length : Int)).toNat]⟩]
theorem ring_len : ∀ (ns : List Int) (acc : List Str), (ns.foldl ringStep acc).length = acc.length + ns.length
  | [], _ => by simp
  | k :: ns, acc => by rw [List.foldl_cons, ring_len ns]; simp [ringStep]; omega
/-- the pile after one step -/
noncomputable def pileStep (acc : List Str) (c : Str) : List Str := if c = Str.ofString ".." then acc.dropLast else acc ++ [c]
theorem pile_step_len (acc : List Str) (c : Str) : (pileStep acc c).length ≤ acc.length + 1 := by
  unfold pileStep; split
  · simp; omega
  · simp
theorem pile_fold_len : ∀ (ss acc : List Str), (ss.foldl pileStep acc).length ≤ acc.length + ss.length
  | [], _ => by simp
  | c :: ss, acc => by
    have h1 := pile_fold_len ss (pileStep acc c)
    have h2 := pile_step_len acc c
    simp only [List.foldl_cons, List.length_cons]; omega
section
variable {prog : Program} {w : World} {A : Around} {E : Value → Shared → Prop} {s : Shared} {env : Env} {h₀ : Heap} {x : Str} {body : List Stmt} {Q : Flow → Shared → Prop}
theorem li_loop7 {S D : Addr} {e1 e2 c p q : Addr × Obj} {vs us₀ : List Value} {nn n₀ : Nat} {ns : List Int} {m₀ : Str → Option Value}
    (hh : A.handled = none) (F : Fr h₀ env.locals s.heap m₀) (N : News h₀ env.locals s.heap [(D, listOf vs.toArray nn), e1, e2, (S, listOf us₀.toArray n₀), c, p, q]) (hvs : IntsAre vs ns) (h0 : StrsAre us₀ [])
    (turn : ∀ i k t us acc n (sT : Shared) own, ns[i]? = some k → acc = (ns.take i).foldl ringStep [] → StrsAre us acc → OwnOff own [S, D, c.1, p.1, q.1] → Fr h₀ env.locals sT.heap (fun y => if y = x then some (.int k t) else m₀ y) →
      News h₀ env.locals sT.heap ((S, listOf us.toArray n) :: (D, listOf vs.toArray nn) :: c :: p :: q :: own) →
      wpAny (model prog w) A (execs body env) (InvPostG h₀ env.locals (LiS S [(D, listOf vs.toArray nn), c, p, q] x m₀ (ringStep acc k)) own sT (fun _ _ => False)) (fun _ _ => False) sT)
    (done : ∀ (u : Str → Option Value) us n (sD : Shared), sD.gens = s.gens → sD.os = s.os → StrsAre us (ns.foldl ringStep []) → Fr h₀ env.locals sD.heap (fun y => if y = x then u y else m₀ y) → News h₀ env.locals sD.heap [(S, listOf us.toArray n), (D, listOf vs.toArray nn), c, p, q] → Q .next sD) :
    wpAny (model prog w) A (pyIter (.ref D)) (fun it s₂ => LoopAtV prog w A h₀ env x body Q E it s₂) E s :=
  li_loop (rest := [(D, listOf vs.toArray nn), c, p, q]) ringStep hh F N (fun z hz => by
    rcases List.mem_cons.mp hz with rfl | hz
    · exact .tail _ (.tail _ (.tail _ (.head _)))
    · rcases List.mem_cons.mp hz with rfl | hz
      · exact .head _
      · exact .tail _ (.tail _ (.tail _ (.tail _ hz)))) (.head _) hvs h0 turn done
end
theorem if_off1 {x : Str} {m : Str → Option Value} {u : Option Value} : ∀ z, z ≠ x → (fun a => if a = x then u else m a) z = m z := fun z h1 => by
  show (if z = x then u else m z) = m z
  rw [if_neg h1]
theorem fmod3 (k : Int) : k.fmod 3 = k % 3 := Int.fmod_eq_emod_of_nonneg _ (by decide)
theorem ring_dots {us : List Value} {acc : List Str} {k : Int} {t : Tok} (hU : StrsAre us acc) (h : k.fmod 3 = 0) : StrsAre (us ++ [.str (Str.ofString "..") t]) (ringStep acc k) := by
  unfold ringStep; rw [if_pos (by rw [← fmod3]; exact h)]; exact strs_push hU _ _
theorem ring_name {us : List Value} {acc : List Str} {k : Int} {t : Tok} (hU : StrsAre us acc) (h : k.fmod 3 ≠ 0) : StrsAre (us ++ [.str ⟨#[(97 + (us.length : Int)).toNat]⟩ t]) (ringStep acc k) := by
  unfold ringStep; rw [if_neg (by rw [← fmod3]; exact h), hU.length]; exact strs_push hU _ _
theorem li_end7 {x : Str} {h₀ : Heap} {L S : Addr} {e c p q : Addr × Obj} {us : List Value} {n : Nat} {own : List (Addr × Obj)} {m₀ m' : Str → Option Value} {acc : List Str} {s₁ : Shared} {h' : Heap} {tk : Nat} {Q : Flow → Shared → Prop}
    (F : Fr h₀ L h' m') (N : News h₀ L h' ((S, listOf us.toArray n) :: e :: c :: p :: q :: own)) (hS : StrsAre us acc) (hm : ∀ z, z ≠ x → m' z = m₀ z) (hoff : OwnOff own [S, e.1, c.1, p.1, q.1]) :
    InvPostG h₀ L (LiS S [e, c, p, q] x m₀ acc) own s₁ Q .next { s₁ with heap := h', toks := tk } :=
  li_end (rest := [e, c, p, q]) F N hS hm hoff
theorem strs_app : ∀ {us vs : List Value} {a b : List Str}, StrsAre us a → StrsAre vs b → StrsAre (us ++ vs) (a ++ b)
  | _, _, _, _, .nil, h => h
  | _, _, _, _, .cons c t r, h => .cons c t (strs_app r h)
section
variable {prog : Program} {w : World} {A : Around} {E : Value → Shared → Prop} {s : Shared} {env : Env} {h₀ : Heap} {x : Str} {body : List Stmt} {Q : Flow → Shared → Prop}
theorem pl_loop8 {px pd D : Addr} {d S e c p q : Addr × Obj} {vs : List Value} {nn n₀ : Nat} {ss : List Str} {m₀ : Str → Option Value}
    (hh : A.handled = none) (F : Fr h₀ env.locals s.heap m₀) (N : News h₀ env.locals s.heap [(D, listOf vs.toArray nn), (px, pileObj pd [] n₀), d, S, e, c, p, q]) (hvs : StrsAre vs ss)
    (turn : ∀ c' t its acc n tups (sT : Shared) own tl, PileIn tups its acc → acc.length ≤ ss.length → OwnOff own (px :: D :: d.1 :: S.1 :: c.1 :: p.1 :: q.1 :: tups.map (·.1)) → OwnOff tups [px, D, d.1, S.1, c.1, p.1, q.1] → (∀ p ∈ tups, p ∈ tl) → (∀ p ∈ own, p ∈ tl) → OwnOff tl [px, D, d.1, S.1, c.1, p.1, q.1] →
      Fr h₀ env.locals sT.heap (fun y => if y = x then some (.str c' t) else m₀ y) → News h₀ env.locals sT.heap ((px, pileObj pd its n) :: (D, listOf vs.toArray nn) :: d :: S :: c :: p :: q :: tl) →
      wpAny (model prog w) A (execs body env) (InvPostG h₀ env.locals (PlS px pd [(D, listOf vs.toArray nn), d, S, c, p, q] x m₀ (pileStep acc c')) own sT (fun _ _ => False)) (fun _ _ => False) sT)
    (done : ∀ (u : Str → Option Value) its n tups (sD : Shared), sD.gens = s.gens → sD.os = s.os → PileIn tups its (ss.foldl pileStep []) → OwnOff tups [px, D, d.1, S.1, c.1, p.1, q.1] → Fr h₀ env.locals sD.heap (fun y => if y = x then u y else m₀ y) →
      News h₀ env.locals sD.heap ((px, pileObj pd its n) :: (D, listOf vs.toArray nn) :: d :: S :: c :: p :: q :: tups) → Q .next sD) :
    wpAny (model prog w) A (pyIter (.ref D)) (fun it s₂ => LoopAtV prog w A h₀ env x body Q E it s₂) E s :=
  pl_loop (rest := [(D, listOf vs.toArray nn), d, S, c, p, q]) pileStep hh F N (fun z hz => by
    rcases List.mem_cons.mp hz with rfl | hz
    · exact .tail _ (.head _)
    · rcases List.mem_cons.mp hz with rfl | hz
      · exact .head _
      · rcases List.mem_cons.mp hz with rfl | hz
        · exact .tail _ (.tail _ (.head _))
        · rcases List.mem_cons.mp hz with rfl | hz
          · exact .tail _ (.tail _ (.tail _ (.head _)))
          · exact .tail _ (.tail _ (.tail _ (.tail _ (.tail _ hz))))) (.head _) hvs pile_in_nil
    (fun i c' t its acc n tups sT own tl hc hacc hP hoff ht h1 h2 h3 F₁ N₁ => turn c' t its acc n tups sT own tl hP (by rw [hacc]; exact Nat.le_trans (pile_fold_len _ _) (by simp; omega)) hoff ht h1 h2 h3 F₁ N₁) done
theorem pl_end8 {L px pd : Addr} {D d S c p q : Addr × Obj} {its : List Value} {n : Nat} {tups own news' : List (Addr × Obj)} {m₀ m' : Str → Option Value} {acc : List Str} {s₁ : Shared} {h' : Heap} {tk : Nat}
    (F : Fr h₀ L h' m') (N : News h₀ L h' news') (h1 : (px, pileObj pd its n) ∈ news') (h2 : ∀ z ∈ [D, d, S, c, p, q], z ∈ news') (h3 : ∀ p ∈ tups, p ∈ news') (h4 : ∀ p ∈ own, p ∈ news') (hP : PileIn tups its acc) (ht : OwnOff tups [px, D.1, d.1, S.1, c.1, p.1, q.1]) (hm : ∀ z, z ≠ x → m' z = m₀ z)
    (hoff : OwnOff own (px :: D.1 :: d.1 :: S.1 :: c.1 :: p.1 :: q.1 :: tups.map (·.1))) :
    InvPostG h₀ L (PlS px pd [D, d, S, c, p, q] x m₀ acc) own s₁ Q .next { s₁ with heap := h', toks := tk } :=
  pl_end (rest := [D, d, S, c, p, q]) F N h1 h2 h3 h4 hP ht hm hoff
end
theorem off_push {T : Addr} {o : Obj} {tups own news : List (Addr × Obj)} {as : List Addr} (hT : ∀ p ∈ news, p.1 ≠ T) (has : ∀ b ∈ as, ∃ o, (b, o) ∈ news) (ho : ∀ p ∈ own, p ∈ news) (h1 : OwnOff own (as ++ tups.map (·.1))) (h2 : OwnOff tups as) :
    OwnOff own (as ++ ((T, o) :: tups).map (·.1)) ∧ OwnOff ((T, o) :: tups) as := by
  refine ⟨fun p hp b hb => ?_, fun p hp b hb => ?_⟩
  · rcases List.mem_append.mp hb with hb | hb
    · exact h1 p hp b (List.mem_append.mpr (.inl hb))
    · rcases List.mem_cons.mp hb with rfl | hb
      · exact hT p (ho p hp)
      · exact h1 p hp b (List.mem_append.mpr (.inr hb))
  · rcases List.mem_cons.mp hp with rfl | hp
    · obtain ⟨o', h⟩ := has b hb
      exact fun e => hT _ h e.symm
    · exact h2 p hp b hb
theorem nil_or_snoc {α : Type} (l : List α) : l = [] ∨ ∃ q y, l = q ++ [y] := by
  rcases List.eq_nil_or_concat l with h | ⟨q, y, h⟩
  · exact .inl h
  · exact .inr ⟨q, y, by rw [h, List.concat_eq_append]⟩
theorem pile_popG {tups : List (Addr × Obj)} {acc : List Str} {c : Str} {its : List Value} (hP : PileIn tups its acc) (h : c = Str.ofString "..") : PileIn tups its.dropLast (pileStep acc c) := by
  unfold pileStep; rw [if_pos h]
  rcases nil_or_snoc its with rfl | ⟨q, y, rfl⟩
  · have e : acc = [] := List.eq_nil_of_length_eq_zero hP.1.symm
    subst e; exact hP
  · rw [List.dropLast_concat]; exact pile_in_pop hP
theorem pile_push1 {tups : List (Addr × Obj)} {acc : List Str} {c : Str} {its : List Value} {T : Addr} {ty tc : Tok} (hP : PileIn tups its acc) (h : c ≠ Str.ofString "..") : PileIn ((T, pairObj c ty tc) :: tups) (its ++ [.ref T]) (pileStep acc c) := by
  unfold pileStep; rw [if_neg h]; exact pile_in_push hP
section
variable {x : Str} {h₀ : Heap} {Q : Flow → Shared → Prop} {L px pd : Addr} {D d S c p q : Addr × Obj} {its : List Value} {n : Nat} {tups own tl : List (Addr × Obj)} {m₀ m' : Str → Option Value} {acc : List Str} {s₁ : Shared} {h' : Heap} {tk : Nat}
theorem pl_end8a (F : Fr h₀ L h' m') (N : News h₀ L h' ((px, pileObj pd its n) :: D :: d :: S :: c :: p :: q :: tl)) (hs1 : ∀ p ∈ tups, p ∈ tl) (hs2 : ∀ p ∈ own, p ∈ tl) (hP : PileIn tups its acc) (ht : OwnOff tups [px, D.1, d.1, S.1, c.1, p.1, q.1]) (hm : ∀ z, z ≠ x → m' z = m₀ z)
    (hoff : OwnOff own (px :: D.1 :: d.1 :: S.1 :: c.1 :: p.1 :: q.1 :: tups.map (·.1))) :
    InvPostG h₀ L (PlS px pd [D, d, S, c, p, q] x m₀ acc) own s₁ Q .next { s₁ with heap := h', toks := tk } :=
  have hin : ∀ z ∈ tl, z ∈ (px, pileObj pd its n) :: D :: d :: S :: c :: p :: q :: tl := fun z hz => .tail _ (.tail _ (.tail _ (.tail _ (.tail _ (.tail _ (.tail _ hz))))))
  pl_end8 F N (.head _) (fun z hz => .tail _ (List.mem_append.mpr (.inl hz) : z ∈ [D, d, S, c, p, q] ++ tl)) (fun z hz => hin z (hs1 z hz)) (fun z hz => hin z (hs2 z hz)) hP ht hm hoff
theorem pl_end8b {T : Addr} {c' : Str} {ty tc : Tok} {ox : Obj} (F : Fr h₀ L h' m') (N : News h₀ L h' ((T, pairObj c' ty tc) :: (px, pileObj pd its n) :: D :: d :: S :: c :: p :: q :: tl)) (hT : ∀ z ∈ (px, ox) :: D :: d :: S :: c :: p :: q :: tl, z.1 ≠ T) (hs1 : ∀ p ∈ tups, p ∈ tl) (hs2 : ∀ p ∈ own, p ∈ tl)
    (hP : PileIn ((T, pairObj c' ty tc) :: tups) its acc) (ht : OwnOff tups [px, D.1, d.1, S.1, c.1, p.1, q.1]) (hm : ∀ z, z ≠ x → m' z = m₀ z) (hoff : OwnOff own (px :: D.1 :: d.1 :: S.1 :: c.1 :: p.1 :: q.1 :: tups.map (·.1))) :
    InvPostG h₀ L (PlS px pd [D, d, S, c, p, q] x m₀ acc) own s₁ Q .next { s₁ with heap := h', toks := tk } := by
  have hin : ∀ z ∈ tl, z ∈ (T, pairObj c' ty tc) :: (px, pileObj pd its n) :: D :: d :: S :: c :: p :: q :: tl := fun z hz => .tail _ (.tail _ (.tail _ (.tail _ (.tail _ (.tail _ (.tail _ (.tail _ hz)))))))
  obtain ⟨o1, o2⟩ := off_push (T := T) (o := pairObj c' ty tc) (as := [px, D.1, d.1, S.1, c.1, p.1, q.1]) hT (fun b hb => by
    simp only [List.mem_cons, List.not_mem_nil, or_false] at hb
    rcases hb with rfl | rfl | rfl | rfl | rfl | rfl | rfl
    · exact ⟨_, .head _⟩
    · exact ⟨_, .tail _ (.head _)⟩
    · exact ⟨_, .tail _ (.tail _ (.head _))⟩
    · exact ⟨_, .tail _ (.tail _ (.tail _ (.head _)))⟩
    · exact ⟨_, .tail _ (.tail _ (.tail _ (.tail _ (.head _))))⟩
    · exact ⟨_, .tail _ (.tail _ (.tail _ (.tail _ (.tail _ (.head _)))))⟩
    · exact ⟨_, .tail _ (.tail _ (.tail _ (.tail _ (.tail _ (.tail _ (.head _))))))⟩) (fun z hz => .tail _ (.tail _ (.tail _ (.tail _ (.tail _ (.tail _ (.tail _ (hs2 z hz)))))))) hoff ht
  exact pl_end8 F N (.tail _ (.head _)) (fun z hz => .tail _ (.tail _ (List.mem_append.mpr (.inl hz) : z ∈ [D, d, S, c, p, q] ++ tl))) (fun z hz => by
    rcases List.mem_cons.mp hz with rfl | hz
    · exact .head _
    · exact hin z (hs1 z hz)) (fun z hz => hin z (hs2 z hz)) hP o2 hm o1
end
theorem pile_step_mem {acc : List Str} {c a : Str} (h : a ∈ pileStep acc c) : a ∈ acc ∨ a = c := by
  unfold pileStep at h
  split at h
  · exact .inl (List.dropLast_subset _ h)
  · rcases List.mem_append.mp h with h | h
    · exact .inl h
    · exact .inr (List.mem_singleton.mp h)
theorem pile_fold_mem : ∀ (ss acc : List Str) (a : Str), a ∈ ss.foldl pileStep acc → a ∈ acc ∨ a ∈ ss
  | [], _, _, h => .inl h
  | c :: ss, acc, a, h => by
    rcases pile_fold_mem ss (pileStep acc c) a h with h | h
    · rcases pile_step_mem h with h | h
      · exact .inl h
      · exact .inr (h ▸ .head _)
    · exact .inr (.tail _ h)
theorem atom_name (n : Nat) : Atom ⟨#[(97 + (n : Int)).toNat]⟩ := by
  refine ⟨by show 0 < 1; decide, by show 1 ≤ 3; decide, ?_⟩
  unfold Free
  show 47 ∉ [(97 + (n : Int)).toNat]
  intro h
  have := List.mem_singleton.mp h
  omega
theorem ring_atoms : ∀ (ns : List Int) (acc : List Str), (∀ a ∈ acc, Atom a) → ∀ a ∈ ns.foldl ringStep acc, Atom a
  | [], _, h, a, ha => h a ha
  | k :: ns, acc, h, a, ha => by
    refine ring_atoms ns (ringStep acc k) (fun b hb => ?_) a ha
    rcases List.mem_append.mp hb with hb | hb
    · exact h b hb
    · rw [List.mem_singleton.mp hb]
      split
      · exact atom_dots
      · exact atom_name _
theorem kept_short {R : List Str} (hR : ∀ a ∈ R, Atom a) (k : Nat) : ∀ c ∈ ((R ++ R).foldl pileStep []).take k, c.length ≤ 1000 := fun c hc => by
  have h1 := List.mem_of_mem_take hc
  rcases pile_fold_mem _ _ _ h1 with h | h
  · cases h
  · have ha : Atom c := by
      rcases List.mem_append.mp h with h | h
      · exact hR c h
      · exact hR c h
    exact Nat.le_trans ha.le (by decide)
theorem news_sub4 {h₀ h : Heap} {L : Addr} {a b c S e p q : Addr × Obj} {tl : List (Addr × Obj)} (N : News h₀ L h (a :: b :: c :: S :: e :: p :: q :: tl)) : News h₀ L h [S, e, p, q] := fun z hz =>
  N z (.tail _ (.tail _ (.tail _ (List.mem_append.mpr (.inl hz) : z ∈ [S, e, p, q] ++ tl))))

theorem fresh_use69 : True := by
  w_top off
  trivial
theorem news_after2 {h₀ h h' : Heap} {L x d : Addr} {ox ox' od : Obj} {pre post led' : List (Addr × Obj)} (N : News h₀ L h (pre ++ (x, ox) :: post)) (a : ∀ p ∈ pre, p.1 ≠ x) (b : ∀ p ∈ post, p.1 ≠ x) (kb : KeepsBut [x, d] h h') (N' : News h₀ L h' led') (h2 : (d, od) ∈ pre ++ (x, ox) :: post) (h3 : (x, ox') ∈ led') (h4 : (d, od) ∈ led') :
    News h₀ L h' (pre ++ (x, ox') :: post) := by
  have key : ∀ p ∈ pre ++ (x, ox) :: post, p.1 ≠ x → h'.get? p.1 = some p.2 ∧ p.1 ≠ L ∧ h₀.get? p.1 = none := by
    intro p hp hx
    by_cases e : p.1 = d
    · have q1 := (N _ h2).1
      have q2 := (N _ hp).1
      rw [e] at q2
      have q3 : p.2 = od := Option.some.inj (q2.symm.trans q1)
      have r := N' _ h4
      rw [q3, e]; exact r
    · exact ⟨kb _ _ (by simp [hx, e]) (N _ hp).1, (N _ hp).2⟩
  intro p hp
  rcases List.mem_append.mp hp with hp | hp
  · exact key p (List.mem_append.mpr (.inl hp)) (a p hp)
  · rcases List.mem_cons.mp hp with rfl | hp
    · exact N' _ h3
    · exact key p (List.mem_append.mpr (.inr (.tail _ hp))) (b p hp)
theorem pile_ne {h₀ h : Heap} {L x d : Addr} {w : World} {its : List Value} {n : Nat} {t u : Tok} {news : List (Addr × Obj)} (N : News h₀ L h news) (h1 : (x, pileObj d its n) ∈ news) (h2 : (d, pileDict w t u) ∈ news) : @Ne Nat x d := fun e => by
  have q1 := (N _ h1).1
  have q2 := (N _ h2).1
  have e : x = d := e
  subst e
  exact absurd (Option.some.inj (q1.symm.trans q2)) (by intro z; exact absurd (congrArg Obj.dict z) (by simp))
theorem sub2 {h₀ h : Heap} {L x d : Addr} {ox od : Obj} {news : List (Addr × Obj)} (N : News h₀ L h news) (h1 : (x, ox) ∈ news) (h2 : (d, od) ∈ news) : News h₀ L h [(x, ox), (d, od)] := fun q hq => by
  rcases List.mem_cons.mp hq with rfl | hq
  · exact N _ h1
  · rcases List.mem_singleton.mp hq with rfl; exact N _ h2
section
variable {w : World} {x d : Addr} {its : List Value} {n : Nat} {t u : Tok} {news news' : List (Addr × Obj)} {g : Obj → List (Addr × Obj)}
    {p : Program} {loose : List Str} {mean : ExcName → Option Value} {mg mb : Str → Option Value} {dp un : Nat} {gd : Option (List Code)} {cn : Str} {cs : Scope} {a : Addr} {ccd : Value} {cl : List (Str × Addr)} {outer : List Env} {A₀ : Around} {base h₀ : Heap} {L : Addr} {m : Str → Option Value} {s : Shared} {Q E : Value → Shared → Prop}
theorem make_use (B : Below A₀ base outer h₀) (F : Fr h₀ L s.heap m) (X : Frag.In (Mine.kp w.params) h₀) (N : News h₀ L s.heap news) (T : Top p loose mean mg mb h₀) (hk : cs.kind = .function) (hd : dp + 40 < recursionLimit) (hu : un + 8 * 40 < cLine)
    (ret : ∀ x d n t u h' tk', Fr h₀ L h' m → News h₀ L h' ((x, pileObj d [] n) :: (d, pileDict w t u) :: news) → (∀ p ∈ news, p.1 < d) → @LT.lt Nat _ d x → Q (.ref x) { s with heap := h', toks := tk' }) :
    wpAny (model PySem.Challenge.rw_qw0042_01.row.prog w) (ktrTop dp un gd cn cs L a ccd cl outer) (call (.ref 101) []) Q E s :=
  c_make w p loose mean mg mb dp un gd cn cs a ccd cl outer A₀ base h₀ L m news s Q E B F X N T hk hd hu ret
theorem push_use {y c : Str} {ty tc : Tok} (B : Below A₀ base outer h₀) (F : Fr h₀ L s.heap m) (X : Frag.In (Mine.kp w.params) h₀) (N : News h₀ L s.heap news) (T : Top p loose mean mg mb h₀) (hk : cs.kind = .function) (hd : dp + 10 < recursionLimit) (hu : un + 8 * 10 < cLine)
    (U : UpdF x (pileObj d its n) news g) (h1 : (x, pileObj d its n) ∈ news) (h2 : (d, pileDict w t u) ∈ news) (hz : its.length ≤ 1000)
    (ret : ∀ T h' tk', Fr h₀ L h' m → News h₀ L h' ((T, ({ cls := .type "tuple", data := .seq #[.str y ty, .str c tc] } : Obj)) :: g (pileObj d (its ++ [.ref T]) (n + 1))) → (∀ p ∈ news, p.1 ≠ T) → Q .none { s with heap := h', toks := tk' }) :
    wpAny (model PySem.Challenge.rw_qw0042_01.row.prog w) (ktrTop dp un gd cn cs L a ccd cl outer) (call (.ref 45) [.ref x, .str y ty, .str c tc]) Q E s :=
  c_push w x d its n t u y c ty tc hz (pile_ne N h1 h2) p loose mean mg mb dp un gd cn cs a ccd cl outer A₀ base h₀ L m s Q E B F X (sub2 N h1 h2) T hk hd hu fun r led' h' tk' kb F' N' hP => by
    obtain ⟨T, rfl, hT, h3, h4, h5⟩ := hP
    obtain ⟨pre, post, rfl, hg, ha, hb⟩ := U.split
    refine ret T h' tk' F' ?_ (ne_of_fresh N hT)
    rw [hg]
    intro q hq
    rcases List.mem_cons.mp hq with rfl | hq
    · exact N' _ h5
    · exact news_after2 N ha hb kb N' h2 h3 h4 q hq
theorem pop0_use (B : Below A₀ base outer h₀) (F : Fr h₀ L s.heap m) (X : Frag.In (Mine.kp w.params) h₀) (N : News h₀ L s.heap news) (T : Top p loose mean mg mb h₀) (hk : cs.kind = .function) (hd : dp + 30 < recursionLimit) (hu : un + 8 * 30 < cLine)
    (U : Upd x (pileObj d [] n) (pileObj d [] n) news news') (h1 : (x, pileObj d [] n) ∈ news) (h2 : (d, pileDict w t u) ∈ news)
    (ret : ∀ r h' tk', Fr h₀ L h' m → News h₀ L h' news' → Q r { s with heap := h', toks := tk' }) :
    wpAny (model PySem.Challenge.rw_qw0042_01.row.prog w) (ktrTop dp un gd cn cs L a ccd cl outer) (call (.ref 61) [.ref x]) Q E s :=
  c_pop0 w x d n t u (pile_ne N h1 h2) p loose mean mg mb dp un gd cn cs a ccd cl outer A₀ base h₀ L m s Q E B F X (sub2 N h1 h2) T hk hd hu fun r led' h' tk' kb F' N' hP =>
    ret r h' tk' F' (news_after N kb N' U h2 hP.1 hP.2)
theorem pop1_use {q : List Value} {y : Value} (B : Below A₀ base outer h₀) (F : Fr h₀ L s.heap m) (X : Frag.In (Mine.kp w.params) h₀) (N : News h₀ L s.heap news) (T : Top p loose mean mg mb h₀) (hk : cs.kind = .function) (hd : dp + 30 < recursionLimit) (hu : un + 8 * 30 < cLine)
    (U : Upd x (pileObj d (q ++ [y]) n) (pileObj d q (n + 1)) news news') (h1 : (x, pileObj d (q ++ [y]) n) ∈ news) (h2 : (d, pileDict w t u) ∈ news) (hz : q.length ≤ 1000)
    (ret : ∀ r h' tk', Fr h₀ L h' m → News h₀ L h' news' → Q r { s with heap := h', toks := tk' }) :
    wpAny (model PySem.Challenge.rw_qw0042_01.row.prog w) (ktrTop dp un gd cn cs L a ccd cl outer) (call (.ref 61) [.ref x]) Q E s :=
  c_pop1 w x d q y n t u hz (pile_ne N h1 h2) p loose mean mg mb dp un gd cn cs a ccd cl outer A₀ base h₀ L m s Q E B F X (sub2 N h1 h2) T hk hd hu fun r led' h' tk' kb F' N' hP =>
    ret r h' tk' F' (news_after N kb N' U h2 hP.2.1 hP.2.2)
theorem pop_use (B : Below A₀ base outer h₀) (F : Fr h₀ L s.heap m) (X : Frag.In (Mine.kp w.params) h₀) (N : News h₀ L s.heap news) (T : Top p loose mean mg mb h₀) (hk : cs.kind = .function) (hd : dp + 30 < recursionLimit) (hu : un + 8 * 30 < cLine)
    (U : UpdF x (pileObj d its n) news g) (h1 : (x, pileObj d its n) ∈ news) (h2 : (d, pileDict w t u) ∈ news) (hz : its.length ≤ 1000)
    (ret : ∀ r n' h' tk', Fr h₀ L h' m → News h₀ L h' (g (pileObj d its.dropLast n')) → Q r { s with heap := h', toks := tk' }) :
    wpAny (model PySem.Challenge.rw_qw0042_01.row.prog w) (ktrTop dp un gd cn cs L a ccd cl outer) (call (.ref 61) [.ref x]) Q E s := by
  obtain ⟨pre, post, rfl, hg, ha, hb⟩ := U.split
  have up : ∀ o', Upd x (pileObj d its n) o' (pre ++ (x, pileObj d its n) :: post) (pre ++ (x, o') :: post) := fun o' => by
    clear U hg h1 h2 N ret
    induction pre with
    | nil => exact .head hb
    | cons q r ih => exact .tail (ha q (.head _)) (ih fun z hz => ha z (.tail _ hz))
  rcases nil_or_snoc its with rfl | ⟨q, y, rfl⟩
  · exact pop0_use B F X N T hk hd hu (up _) h1 h2 fun r h' tk' F' N' => ret r n h' tk' F' (by rw [hg]; exact N')
  · exact pop1_use B F X N T hk hd hu (up _) h1 h2 (by rw [List.length_append] at hz; omega) fun r h' tk' F' N' => ret r (n + 1) h' tk' F' (by rw [hg, List.dropLast_concat]; exact N')
theorem popfrom_use {i : Int} {v : Tok} (B : Below A₀ base outer h₀) (F : Fr h₀ L s.heap m) (X : Frag.In (Mine.kp w.params) h₀) (N : News h₀ L s.heap news) (T : Top p loose mean mg mb h₀) (hk : cs.kind = .function) (hd : dp + 30 < recursionLimit) (hu : un + 8 * 30 < cLine)
    (U : UpdF x (pileObj d its n) news g) (h1 : (x, pileObj d its n) ∈ news) (h2 : (d, pileDict w t u) ∈ news) (hz : its.length ≤ 1000) (hi : 0 ≤ i)
    (ret : ∀ r n' h' tk', Fr h₀ L h' m → News h₀ L h' (g (pileObj d (its.take i.toNat) n')) → Q r { s with heap := h', toks := tk' }) :
    wpAny (model PySem.Challenge.rw_qw0042_01.row.prog w) (ktrTop dp un gd cn cs L a ccd cl outer) (call (.ref 53) [.ref x, .int i v]) Q E s := by
  have e : i = ((i.toNat : Nat) : Int) := by omega
  generalize i.toNat = k at e ret
  subst e
  exact c_popfrom w x d its n t u k v hz (pile_ne N h1 h2) p loose mean mg mb dp un gd cn cs a ccd cl outer A₀ base h₀ L m s Q E B F X (sub2 N h1 h2) T hk hd hu fun r led' h' tk' kb F' N' hP => by
    obtain ⟨n', h3, h4⟩ := hP
    obtain ⟨pre, post, rfl, hg, ha, hb⟩ := U.split
    refine ret r n' h' tk' F' ?_
    rw [hg]
    exact news_after2 N ha hb kb N' h2 h3 h4
theorem str_use {cs' : List Str} (F : Fr h₀ L s.heap m) (X : Frag.In (Mine.kp w.params) h₀) (N : News h₀ L s.heap news) (T : Top p loose mean mg mb h₀) (hk : cs.kind = .function) (hd : dp + 40 < recursionLimit) (hu : un + 8 * 40 < cLine)
    (h1 : (x, pileObj d its n) ∈ news) (U : UpdF 70 (tabObj #[]) news g) (h70 : (70, tabObj #[]) ∈ news) (hA : PileAre s.heap its cs') (hG : AllBare s.gens) (hz : its.length ≤ 1000) (hcl : ∀ c ∈ cs', c.length ≤ 1000)
    (ret : ∀ kept t' ps s', kept = keptOf cs' → s'.os = s.os → AllBare s'.gens → Fr h₀ L s'.heap m → News h₀ L s'.heap (g (tabObj ps)) → Q (.str kept t') s') :
    wpAny (model PySem.Challenge.rw_qw0042_01.row.prog w) (ktrTop dp un gd cn cs L a ccd cl outer) (call (.ref 75) [.ref x]) Q E s := by
  refine c_str w p loose mean mg mb dp un gd cn cs a ccd cl outer callerA h₀ h₀ L m s Q E x d its n cs' F X T hk hd hu (N _ h1).1 (N _ h70).1 hA hG hz hcl ?_
  rintro t' s' hkp hos hgs ⟨ps, hps⟩
  have h7 := N _ h70
  obtain ⟨pre, post, rfl, hg, ha, hb⟩ := U.split
  refine ret _ t' ps s' rfl hos hgs ⟨F.ns.at' fun o e => hkp _ o (Ne.symm h7.2.1) e, fun b o e => hkp b o (fun q => by rw [q, h7.2.2] at e; cases e) (F.keep b o e), F.above⟩ ?_
  rw [hg]
  intro q hq
  rcases List.mem_append.mp hq with hq | hq
  · exact ⟨hkp _ _ (ha q hq) (N _ (List.mem_append.mpr (.inl hq))).1, (N _ (List.mem_append.mpr (.inl hq))).2⟩
  · rcases List.mem_cons.mp hq with rfl | hq
    · exact ⟨hps, h7.2⟩
    · exact ⟨hkp _ _ (hb q hq) (N _ (List.mem_append.mpr (.inr (.tail _ hq)))).1, (N _ (List.mem_append.mpr (.inr (.tail _ hq)))).2⟩
end

theorem fresh_yaturn69 : True := by
  w_top off
  trivial
/-- the code table of the lambda: empty at first, later with the one code -/
def TabsOk (tabs : List (Addr × Obj)) : Prop := tabs = [(224, tabObj #[])] ∨ ∃ c' oc, tabs = [(224, tbl c'), (c', oc)] ∧ LamOk oc
section
variable {w : World} {news : List (Addr × Obj)} {p : Program} {loose : List Str} {mean : ExcName → Option Value} {mg mb : Str → Option Value} {dp un : Nat} {gd : Option (List Code)} {cn : Str} {cs : Scope} {a : Addr} {ccd : Value} {cl : List (Str × Addr)} {outer : List Env} {A₀ : Around} {base h₀ : Heap} {L : Addr} {m : Str → Option Value} {s : Shared} {Q E : Value → Shared → Prop}
theorem stops_any {l : Addr} {vs : List Value} {n : Nat} {ss : List Str} {hd tabs own : List (Addr × Obj)} (B : Below A₀ base outer h₀) (F : Fr h₀ L s.heap m) (X : Frag.In (Mine.kp w.params) h₀) (N : News h₀ L s.heap (hd ++ (tabs ++ own))) (T : Top p loose mean mg mb h₀) (hk : cs.kind = .function)
    (hdp : dp + 30 < recursionLimit) (hu : un + 8 * 30 < cLine) (hl : (l, listOf vs.toArray n) ∈ hd) (hT : TabsOk tabs) (hne : ∀ q ∈ hd ++ own, ∀ z ∈ tabs, q.1 ≠ z.1) (hS : StrsAre vs ss) (hat : ∀ a ∈ ss, Atom a) (hsl : ss.length ≤ 90)
    (ret : ∀ D us n' tabs' h' tk', StrsAre us (stopsOf ss) → TabsOk tabs' → Fr h₀ L h' m → News h₀ L h' ((D, listOf us.toArray n') :: (hd ++ (tabs' ++ own))) → (∀ q ∈ hd ++ (tabs' ++ own), q.1 ≠ D) → (∀ q ∈ hd ++ own, ∀ z ∈ tabs', q.1 ≠ z.1) → Q (.ref D) { s with heap := h', toks := tk' }) :
    wpAny (model PySem.Challenge.rw_qw0042_01.row.prog w) (ktrTop dp un gd cn cs L a ccd cl outer) (call (.ref 229) [.ref l]) Q E s := by
  have hin1 : ∀ q ∈ hd, q ∈ hd ++ (tabs ++ own) := fun q hq => List.mem_append.mpr (.inl hq)
  have hin2 : ∀ q ∈ tabs, q ∈ hd ++ (tabs ++ own) := fun q hq => List.mem_append.mpr (.inr (List.mem_append.mpr (.inl hq)))
  have hin3 : ∀ q ∈ own, q ∈ hd ++ (tabs ++ own) := fun q hq => List.mem_append.mpr (.inr (List.mem_append.mpr (.inr hq)))
  rcases hT with rfl | ⟨c', oc, rfl, hoc⟩
  · have hl4 : l ≠ 224 := hne _ (List.mem_append.mpr (.inl hl)) _ (.head _)
    refine c_stops1 w l vs n ss hS hat hsl hl4 p loose mean mg mb dp un gd cn cs a ccd cl outer A₀ base h₀ L m s Q E B F X (fun q hq => by
      rcases List.mem_cons.mp hq with rfl | hq
      · exact N _ (hin1 _ hl)
      · rw [List.mem_singleton.mp hq]; exact N _ (hin2 _ (.head _))) T hk hdp hu ?_
    rintro r led' h' tk' kb F' N' ⟨D, us, n', c', oc, rfl, hU, hoc, hD, hc, hcD, m1, m2, m3, m4⟩
    have fD := ne_of_fresh N hD
    have fc := ne_of_fresh N hc
    have key : ∀ q ∈ hd ++ own, h'.get? q.1 = some q.2 ∧ q.1 ≠ L ∧ h₀.get? q.1 = none := fun q hq => by
      have hq' : q ∈ hd ++ ([(224, tabObj #[])] ++ own) := by
        rcases List.mem_append.mp hq with hq | hq
        · exact hin1 _ hq
        · exact hin3 _ hq
      by_cases e : q.1 = l
      · have q1 := (N _ (hin1 _ hl)).1
        have q2 := (N _ hq').1
        rw [e] at q2
        have q3 : q.2 = listOf vs.toArray n := Option.some.inj (q2.symm.trans q1)
        have r := N' _ m3
        rw [q3, e]; exact r
      · have h2 : q.1 ≠ 224 := hne _ hq _ (.head _)
        exact ⟨kb _ _ (by simp [e, h2]) (N _ hq').1, (N _ hq').2⟩
    refine ret D us n' [(224, tbl c'), (c', oc)] h' tk' hU (.inr ⟨c', oc, rfl, hoc⟩) F' (fun q hq => ?_) (fun q hq => ?_) (fun q hq z hz => ?_)
    · rcases List.mem_cons.mp hq with rfl | hq
      · exact N' _ m1
      · rcases List.mem_append.mp hq with hq | hq
        · exact key q (List.mem_append.mpr (.inl hq))
        · rcases List.mem_append.mp hq with hq | hq
          · rcases List.mem_cons.mp hq with rfl | hq
            · exact N' _ m4
            · rw [List.mem_singleton.mp hq]; exact N' _ m2
          · exact key q (List.mem_append.mpr (.inr hq))
    · rcases List.mem_append.mp hq with hq | hq
      · exact fD q (hin1 _ hq)
      · rcases List.mem_append.mp hq with hq | hq
        · rcases List.mem_cons.mp hq with e | hq
          · have e' : q.1 = 224 := congrArg Prod.fst e
            exact fun z => fD (224, tabObj #[]) (hin2 _ (.head _)) (e'.symm.trans z)
          · rw [List.mem_singleton.mp hq]; exact hcD
        · exact fD q (hin3 _ hq)
    · have hq' : q ∈ hd ++ ([(224, tabObj #[])] ++ own) := by
        rcases List.mem_append.mp hq with hq | hq
        · exact hin1 _ hq
        · exact hin3 _ hq
      rcases List.mem_cons.mp hz with e | hz
      · have e' : z.1 = 224 := congrArg Prod.fst e
        rw [e']; exact hne q hq (224, tabObj #[]) (.head _)
      · rw [List.mem_singleton.mp hz]; exact fc q hq'
  · have hl4 : l ≠ 224 := hne _ (List.mem_append.mpr (.inl hl)) _ (.head _)
    have hlc : c' ≠ l := fun e => hne _ (List.mem_append.mpr (.inl hl)) _ (.tail _ (.head _)) e.symm
    have hc4 : c' ≠ 224 := fun e => by
      have q1 := (N _ (hin2 _ (.head _))).1
      have q2 := (N _ (hin2 _ (.tail _ (.head _)))).1
      have q2 : s.heap.get? c' = some oc := q2
      rw [e] at q2
      have q3 : oc = tbl c' := Option.some.inj (q2.symm.trans q1)
      obtain ⟨vs9, t9, e1, e2⟩ := hoc
      rw [q3] at e1
      have e3 : vs9 = #[] ++ #[rawInt ((176 : Nat) : Int), rawInt ((18 : Nat) : Int), Value.ref c'] := by
        have e4 : (tbl c').data = .fields (#[] ++ #[rawInt ((176 : Nat) : Int), rawInt ((18 : Nat) : Int), Value.ref c']) := rfl
        rw [e4] at e1
        exact (Data.fields.inj e1).symm
      rw [e3] at e2
      have e5 : (some (rawInt ((18 : Nat) : Int)) : Option Value) = some (.str lamQ t9) := e2
      cases e5
    refine c_stops2 w l c' oc hoc hlc hc4 vs n ss hS hat hsl hl4 p loose mean mg mb dp un gd cn cs a ccd cl outer A₀ base h₀ L m s Q E B F X (fun q hq => by
      rcases List.mem_cons.mp hq with rfl | hq
      · exact N _ (hin1 _ hl)
      · rcases List.mem_cons.mp hq with rfl | hq
        · exact N _ (hin2 _ (.tail _ (.head _)))
        · rw [List.mem_singleton.mp hq]; exact N _ (hin2 _ (.head _))) T hk hdp hu ?_
    rintro r led' h' tk' kb F' N' ⟨D, us, n', rfl, hU, hD, m1, m2, m3, m4⟩
    have fD := ne_of_fresh N hD
    have key : ∀ q ∈ hd ++ own, h'.get? q.1 = some q.2 ∧ q.1 ≠ L ∧ h₀.get? q.1 = none := fun q hq => by
      have hq' : q ∈ hd ++ ([(224, tbl c'), (c', oc)] ++ own) := by
        rcases List.mem_append.mp hq with hq | hq
        · exact hin1 _ hq
        · exact hin3 _ hq
      by_cases e : q.1 = l
      · have q1 := (N _ (hin1 _ hl)).1
        have q2 := (N _ hq').1
        rw [e] at q2
        have q3 : q.2 = listOf vs.toArray n := Option.some.inj (q2.symm.trans q1)
        have r := N' _ m3
        rw [q3, e]; exact r
      · have h2 : q.1 ≠ 224 := hne _ hq _ (.head _)
        have h3 : q.1 ≠ c' := hne _ hq _ (.tail _ (.head _))
        exact ⟨kb _ _ (by simp [e, h2, h3]) (N _ hq').1, (N _ hq').2⟩
    refine ret D us n' [(224, tbl c'), (c', oc)] h' tk' hU (.inr ⟨c', oc, rfl, hoc⟩) F' (fun q hq => ?_) (fun q hq => ?_) hne
    · rcases List.mem_cons.mp hq with rfl | hq
      · exact N' _ m1
      · rcases List.mem_append.mp hq with hq | hq
        · exact key q (List.mem_append.mpr (.inl hq))
        · rcases List.mem_append.mp hq with hq | hq
          · rcases List.mem_cons.mp hq with rfl | hq
            · exact N' _ m4
            · rw [List.mem_singleton.mp hq]; exact N' _ m2
          · exact key q (List.mem_append.mpr (.inr hq))
    · rcases List.mem_append.mp hq with hq | hq
      · exact fD q (hin1 _ hq)
      · rcases List.mem_append.mp hq with hq | hq
        · exact fD q (hin2 _ hq)
        · exact fD q (hin3 _ hq)
end

theorem fresh_ybcomp69 : True := by
  w_top off
  trivial
section
variable {prog : Program} {w : World} {A : Around} {h₀ : Heap} {L : Addr} {m : Str → Option Value} {env : Env} {ct : Expr} {x : Str} {px : Pos} {scope : Scope} {cl : List (Str × Addr)} {s : Shared} {S : List (Addr × Obj) → Prop} {Fin : List Value → List (Addr × Obj) → Prop} {news : List (Addr × Obj)}
theorem compT_strs {vs : List Value} {ss : List Str} (pz : Str → Bool) (hS : StrsAre vs ss) (hSn : S news) (hkind : scope.kind = .function) (hxl : scope.names.lookup x = some .local) (hdb : (x == ("__debug__" : Str)) = false)
    (turn : ∀ c t I oI C oC D m₂ ys (sT : Shared) (E' : Value → Shared → Prop), c ∈ ss → LCg.NsObj oC m₂ → m₂ x = some (.str c t) → Fr h₀ L sT.heap m → News h₀ L sT.heap ((I, oI) :: (C, oC) :: (D, LCg.lst ys) :: news) → LCg.Off3 I C D news → ((@Ne Nat I C) ∧ (@Ne Nat I D) ∧ (@Ne Nat C D)) →
      wpAny (model prog w) A (isTrue ct (compEnvC scope cl C env) (eval ct (compEnvC scope cl C env))) (fun ok s' => ok = pz c ∧ ∃ h' tk', s' = { sT with heap := h', toks := tk' } ∧ Fr h₀ L h' m ∧ News h₀ L h' ((I, oI) :: (C, oC) :: (D, LCg.lst ys) :: news)) E' sT)
    (fin : ∀ ys, StrsAre ys (ss.filter pz) → Fin ys news) :
    LCt.CompRestT prog w A h₀ L m env ct (.Name x px) x scope cl s S (fun i v => vs.toArray[i]? = some v) Fin vs.toArray.size 0 [] news := by
  have hlen : vs.toArray.size = ss.length := by rw [List.size_toArray]; exact hS.length
  have key : ∀ (j i : Nat) (ys : List Value), i + j = vs.toArray.size → StrsAre ys ((ss.take i).filter pz) → LCt.CompRestT prog w A h₀ L m env ct (.Name x px) x scope cl s S (fun i v => vs.toArray[i]? = some v) Fin j i ys news := by
    intro j
    induction j with
    | zero =>
      intro i ys hi hy
      have e : i = ss.length := by omega
      subst e
      rw [List.take_length] at hy
      exact LCt.CompRestT.zero (fin ys hy)
    | succ j ih =>
      intro i ys hi hy
      refine LCt.CompRestT.succ ?_
      intro v I oI C oC D m₂ h tk E' hv hC hx F N off ne
      obtain ⟨c, t, rfl, hc⟩ := StrsAre.item hS i v (by simpa using hv)
      refine wpAny_mono (turn c t I oI C oC D m₂ ys { s with heap := h, toks := tk } E' (List.mem_of_getElem? hc) hC hx F N off ne) (fun ok s' hq => ?_) fun _ _ e => e
      obtain ⟨rfl, h', tk', rfl, F', N'⟩ := hq
      have zC := (N' (C, oC) (.tail _ (.head _))).1
      cases hp : pz c with
      | true =>
        simp only [if_true]
        refine wpAny_Name (wpAny_loadName_local (by simp [compEnvC, relabel, hkind]) (lookup_relabel_local hxl) (hC.ns zC) hx ?_) hdb
        refine LCg.CompEnd.intro F' N' news (fun p hp => hp) off hSn (ih (i + 1) _ (by omega) ?_)
        rw [List.take_add_one, hc]
        simp only [Option.toList_some, List.filter_append, List.filter_cons, hp, if_true, List.filter_nil]
        exact strs_push hy _ _
      | false =>
        simp only [Bool.false_eq_true, if_false]
        refine LCg.CompEnd.intro F' N' news (fun p hp => hp) off hSn (ih (i + 1) _ (by omega) ?_)
        rw [List.take_add_one, hc]
        simp only [Option.toList_some, List.filter_append, List.filter_cons, hp, Bool.false_eq_true, if_false, List.filter_nil, List.append_nil]
        exact hy
  exact key _ 0 [] (by omega) (by simp only [List.take_zero, List.filter_nil]; exact .nil)
end

theorem fresh_yceq69 : True := by
  w_top off
  trivial
theorem all_getD (a b : List Str) (h : a.length = b.length) : (List.range a.length).all (fun j => a.getD j (Str.ofString "") == b.getD j (Str.ofString "")) = decide (a = b) := by
  rw [Bool.eq_iff_iff, List.all_eq_true, decide_eq_true_iff]
  constructor
  · intro q
    apply List.ext_getElem h
    intro i h1 h2
    have := q i (List.mem_range.mpr h1)
    rw [List.getD_eq_getElem?_getD, List.getD_eq_getElem?_getD, List.getElem?_eq_getElem h1, List.getElem?_eq_getElem h2] at this
    exact eq_of_beq this
  · rintro rfl i _
    exact beq_self_eq_true _
section
variable {prog : Program} {w : World} {A : Around} {E : Value → Shared → Prop} {s : Shared} {h₀ : Heap} {L l k : Addr} {news : List (Addr × Obj)}
theorem eq_strs_K {us vs : List Value} {a b : List Str} {n n2 : Nat} {Q : Value → Shared → Prop} (N : News h₀ L s.heap news) (hl : (l, listOf us.toArray n) ∈ news) (hb : (k, listOf vs.toArray n2) ∈ news) (hS1 : StrsAre us a) (hS2 : StrsAre vs b) (hu : A.units < cLine)
    (h : Q (.bool (decide (a = b))) s) : wpAny (model prog w) A (compareOp .Eq (.ref l) (.ref k)) Q E s := by
  have il : s.heap.IsList l us.toArray := ⟨_, (N _ hl).1, rfl, n, rfl⟩
  have ib : s.heap.IsList k vs.toArray := ⟨_, (N _ hb).1, rfl, n2, rfl⟩
  have e1 := hS1.length
  have e2 := hS2.length
  by_cases hsz : a.length = b.length
  · refine PySem.SeqAt.eq_listAt (e := fun j => a.getD j (Str.ofString "") == b.getD j (Str.ofString "")) il ib (by simp; omega) hu (fun j h1 h2 => ?_) ?_
    · have j1 : j < a.length := by simpa [e1] using h1
      have j2 : j < b.length := by simpa [e2] using h2
      obtain ⟨t1, q1⟩ := hS1.get j a[j] (List.getElem?_eq_getElem j1)
      obtain ⟨t2, q2⟩ := hS2.get j b[j] (List.getElem?_eq_getElem j2)
      have r1 : us.toArray[j] = .str a[j] t1 := by
        have := List.getElem?_eq_some_iff.mp q1
        obtain ⟨_, e⟩ := this
        simpa using e
      have r2 : vs.toArray[j] = .str b[j] t2 := by
        have := List.getElem?_eq_some_iff.mp q2
        obtain ⟨_, e⟩ := this
        simpa using e
      rw [r1, r2]
      have g1 : a.getD j (Str.ofString "") = a[j] := by rw [List.getD_eq_getElem?_getD, List.getElem?_eq_getElem j1]; rfl
      have g2 : b.getD j (Str.ofString "") = b[j] := by rw [List.getD_eq_getElem?_getD, List.getElem?_eq_getElem j2]; rfl
      rw [g1, g2]
      exact (eqGives_str a[j] b[j] t1 t2).at _ _
    · have e3 : us.toArray.size = a.length := by simp [e1]
      rw [e3, all_getD a b hsz]
      exact h
  · refine PySem.SeqAt.eq_list_lengthsAt il ib (by simp [e1, e2, hsz]) hu ?_
    rw [decide_eq_false (fun e => hsz (by rw [e]))] at h
    exact h
end

theorem fresh_ydslice69 : True := by
  w_top off
  trivial
section
variable {prog : Program} {w : World} {A : Around} {E : Value → Shared → Prop} {s : Shared} {h₀ : Heap} {L l : Addr} {m : Str → Option Value} {news : List (Addr × Obj)}
theorem strs_from {value slice : Expr} {us : List Value} {n : Nat} {i : Nat} {t : Tok} {Q : Value → Shared → Prop} (F : Fr h₀ L s.heap m) (N : News h₀ L s.heap news) (hm : (l, listOf us.toArray n) ∈ news)
    (h : ∀ D h', Fr h₀ L h' m → News h₀ L h' ((D, listOf (us.drop i).toArray 0) :: news) → (∀ p ∈ news, p.1 < D) → Q (.ref D) { s with heap := h' })
    (hs : subscripted slice false (.ref l) (.ref s.heap.objs.size) = operate [.ref s.heap.objs.size, .ref l] (getItem (.ref l) (.ref s.heap.objs.size))) (ht : ∀ r, letTemporaryGo value (.ref l) r = pure ()) (hz : us.length ≤ 100000) :
    wpAny (model prog w) A (subscriptTail value slice (.ref l) (.ref s.heap.objs.size)) Q E { s with heap := s.heap.push { cls := .type "slice", data := .fields #[.int (i : Int) t, .none, .none] } } := by
  refine kmk_slice F N ⟨_, (N _ hm).1, rfl, n, rfl⟩ (.int (i : Int) t) .none (fun D h' F' N' l1 => h D h' F' ?_ l1) hs ht (by rw [sizeLine_eq, List.size_toArray]; omega)
  have e : slicePick us.toArray (some (i : Int)) none none = (us.drop i).toArray := slicePick_from' us.toArray i
  rw [← e]; exact N'
theorem strs_upto {value slice : Expr} {us : List Value} {n : Nat} {i : Nat} {t : Tok} {Q : Value → Shared → Prop} (F : Fr h₀ L s.heap m) (N : News h₀ L s.heap news) (hm : (l, listOf us.toArray n) ∈ news)
    (h : ∀ D h', Fr h₀ L h' m → News h₀ L h' ((D, listOf (us.take i).toArray 0) :: news) → (∀ p ∈ news, p.1 < D) → Q (.ref D) { s with heap := h' })
    (hs : subscripted slice false (.ref l) (.ref s.heap.objs.size) = operate [.ref s.heap.objs.size, .ref l] (getItem (.ref l) (.ref s.heap.objs.size))) (ht : ∀ r, letTemporaryGo value (.ref l) r = pure ()) (hz : us.length ≤ 100000) :
    wpAny (model prog w) A (subscriptTail value slice (.ref l) (.ref s.heap.objs.size)) Q E { s with heap := s.heap.push { cls := .type "slice", data := .fields #[.none, .int (i : Int) t, .none] } } := by
  refine kmk_slice F N ⟨_, (N _ hm).1, rfl, n, rfl⟩ .none (.int (i : Int) t) (fun D h' F' N' l1 => h D h' F' ?_ l1) hs ht (by rw [sizeLine_eq, List.size_toArray]; omega)
  have e : slicePick us.toArray none (some (i : Int)) none = (us.take i).toArray := slicePick_upto' us.toArray i
  rw [← e]; exact N'
theorem strs_item {value slice : Expr} {us : List Value} {R : List Str} {n i : Nat} {u : Tok} {Q : Value → Shared → Prop} (N : News h₀ L s.heap news) (hm : (l, listOf us.toArray n) ∈ news) (hS : StrsAre us R) (hi : i < R.length) (hz : R.length ≤ 100000) (h : ∀ t, Q (.str (R.getD i (Str.ofString "")) t) s)
    (hs : subscripted slice false (.ref l) (.int (i : Int) u) = operate [.ref l, .int (i : Int) u] (getItem (.ref l) (.int (i : Int) u))) (hg : ∀ r, letTemporaryGo value (.ref l) r = pure ()) :
    wpAny (model prog w) A (subscriptTail value slice (.ref l) (.int (i : Int) u)) Q E s := by
  obtain ⟨t, q1⟩ := hS.get i R[i] (List.getElem?_eq_getElem hi)
  have g1 : R.getD i (Str.ofString "") = R[i] := by rw [List.getD_eq_getElem?_getD, List.getElem?_eq_getElem hi]; rfl
  have h' := h t
  rw [g1] at h'
  exact item_list ⟨_, (N _ hm).1, rfl, n, rfl⟩ (by omega) (by omega) (by simpa using q1) h' hs hg
theorem strs_last {value slice : Expr} {us : List Value} {R : List Str} {n : Nat} {u : Tok} {Q : Value → Shared → Prop} (N : News h₀ L s.heap news) (hm : (l, listOf us.toArray n) ∈ news) (hS : StrsAre us R) (hi : R ≠ []) (hz : R.length ≤ 100000) (h : ∀ t, Q (.str (R.getLastD (Str.ofString "")) t) s)
    (hs : subscripted slice false (.ref l) (.int (-1) u) = operate [.ref l, .int (-1) u] (getItem (.ref l) (.int (-1) u))) :
    wpAny (model prog w) A (subscriptTail value slice (.ref l) (.int (-1) u)) Q E s := by
  obtain ⟨us', t, acc', d, rfl, rfl, hS'⟩ := strs_snoc hS hi
  have h' := h t
  rw [List.getLastD_concat] at h'
  refine last_snoc N hm (by have := hS'.length; rw [List.length_append] at hz; omega) h' hs
end

theorem lines_yezlines69 : True := by
  k_with "subscriptTail Name Slice ref ref" => (k_here; (with_reducible show wpAny _ _ (subscriptTail _ (PySem.Expr.Slice (some _) none none _) (Value.ref _) (Value.ref _)) _ _ _); k_dflt (refine' strs_from ?F1'w ?N1'w ?l1'w ?_ ?s1'w ?t1'w ?z1'w; (case F1'w => k_asm); (case N1'w => k_asm); (case l1'w => with_reducible_and_instances k_mem); (case s1'w => with_unfolding_all rfl); (case t1'w => kmk_pure); (case z1'w => omega)); intro D''w h''w F''w N''w l1'w; (try k_lt l1'w); (try k_sweep))
  k_with "subscriptTail Name Slice ref ref" => (k_here; (with_reducible show wpAny _ _ (subscriptTail _ (PySem.Expr.Slice none (some _) none _) (Value.ref _) (Value.ref _)) _ _ _); k_dflt (refine' strs_upto ?F1'w ?N1'w ?l1'w ?_ ?s1'w ?t1'w ?z1'w; (case F1'w => k_asm); (case N1'w => k_asm); (case l1'w => with_reducible_and_instances k_mem); (case s1'w => with_unfolding_all rfl); (case t1'w => kmk_pure); (case z1'w => omega)); intro D''w h''w F''w N''w l1'w; (try k_lt l1'w); (try k_sweep))
  k_with "subscriptTail Name Name ref int" => (k_here; (with_reducible show wpAny _ _ (subscriptTail _ _ (Value.ref _) (Value.int _ _)) _ _ _); k_dflt (refine' strs_item ?N1'w ?l1'w ?S1'w ?i1'w ?z1'w ?_ ?s1'w ?t1'w; (case N1'w => k_asm); (case l1'w => with_reducible_and_instances k_mem); (case S1'w => assumption); (case i1'w => omega); (case z1'w => omega); (case s1'w => with_unfolding_all rfl); (case t1'w => kmk_pure)); intro t1'w)
  k_with "subscriptTail Name UnaryOp ref int" => (k_here; (with_reducible show wpAny _ _ (subscriptTail _ _ (Value.ref _) (Value.int _ _)) _ _ _); k_dflt (refine' strs_last ?N1'w ?l1'w ?S1'w ?i1'w ?z1'w ?_ ?s1'w; (case N1'w => k_asm); (case l1'w => with_reducible_and_instances k_mem); (case S1'w => assumption); (case i1'w => assumption); (case z1'w => assumption); (case s1'w => with_unfolding_all rfl)); intro t1'w)
  k_with "call ref" => ((show wpAny _ _ (call (Value.ref 229) [Value.ref _]) _ _ _); refine hold_of ?_)
  k_with "eval ListComp" => ((show wpAny _ _ (eval (PySem.Expr.ListComp _ _ _ _) _) _ _ _); refine hold_of ?_)
  k_with "compareOp Eq ref ref" => ((show wpAny _ _ (compareOp _ (Value.ref _) (Value.ref _)) _ _ _); refine hold_of ?_)
  trivial

theorem fresh_yfsl69 : True := by
  w_top off
  trivial
noncomputable def rotR (R : List Str) (k : Nat) : List Str := R.drop k ++ R.take k
noncomputable def badB (s : Str) : Bool := (s == Str.ofString ".") || (Txt.slice s none (some 2) == Str.ofString "..")
noncomputable def goodB (R : List Str) (k : Nat) : Bool := decide (((stopsOf (rotR R k)).drop 1).filter badB = [])
noncomputable def startsAt (R : List Str) : Nat → Str
  | 0 => Str.ofString ""
  | i + 1 => if goodB R i = true then startsAt R i ++ Str.ofString "/" ++ R.getD i (Str.ofString "") else startsAt R i
noncomputable def endsAt (R : List Str) : Nat → List Str
  | 0 => []
  | i + 1 => if goodB R i = true then endsAt R i ++ [Str.ofString "/" ++ (stopsOf (rotR R i)).getLastD (Str.ofString "")] else endsAt R i
theorem map_three {x xs xp : Str} {m₁ m₀ : Str → Option Value} {a : Value} (ha : m₁ xs = some a) (hm : ∀ z, z ≠ x → z ≠ xs → z ≠ xp → m₁ z = m₀ z) (v : Option Value) : (fun z => if z = x then v else m₁ z) = fun z => if z = x then v else if z = xs then some a else if z = xp then m₁ xp else m₀ z := by
  funext z
  by_cases h1 : z = x
  · simp [h1]
  · simp only [if_neg h1]
    by_cases h2 : z = xs
    · rw [if_pos h2, h2, ha]
    · rw [if_neg h2]
      by_cases h3 : z = xp
      · rw [if_pos h3, h3]
      · rw [if_neg h3]; exact hm z h1 h2 h3
theorem done_three {x xs xp : Str} {m₁ m₀ : Str → Option Value} {a : Value} (ha : m₁ xs = some a) (hm : ∀ z, z ≠ x → z ≠ xs → z ≠ xp → m₁ z = m₀ z) : m₁ = fun z => if z = x then m₁ x else if z = xs then some a else if z = xp then m₁ xp else m₀ z := by
  have h := map_three ha hm (m₁ x)
  rw [← h]
  funext z
  by_cases h1 : z = x
  · simp [h1]
  · simp [h1]
section
variable {prog : Program} {w : World} {A : Around} {E : Value → Shared → Prop} {s : Shared} {env : Env} {h₀ : Heap} {x xs xp : Str} {body : List Stmt} {Q : Flow → Shared → Prop}
def SlS (e : Addr) (S c p : Addr × Obj) (x xs xp : Str) (R : List Str) (m₀ : Str → Option Value) (i : Nat) (m : Str → Option Value) (nx : List (Addr × Obj)) : Prop :=
  ∃ eus ne tS tabs, nx = (e, listOf eus.toArray ne) :: S :: c :: p :: tabs ∧ StrsAre eus (endsAt R i) ∧ TabsOk tabs ∧ OwnOff tabs [e, S.1, c.1, p.1] ∧ m xs = some (.str (startsAt R i) tS) ∧ ∀ z, z ≠ x → z ≠ xs → z ≠ xp → m z = m₀ z
theorem sl_loop {e r : Addr} {S c p : Addr × Obj} {R : List Str} {b₀ : Int} {t₀ u₀ v₀ tS : Tok} {n ne : Nat} {m₀ : Str → Option Value}
    (hh : A.handled = none) (hr : IsRange s.heap r 0 b₀ 1 t₀ u₀ v₀) (hsmall : Builtin.Range.small 0 b₀ 1 = true) (hsz : Builtin.Range.rangeSize 0 b₀ 1 = (n : Int)) (F : Fr h₀ env.locals s.heap m₀) (N : News h₀ env.locals s.heap [(e, listOf [].toArray ne), S, c, p, (224, tabObj #[])])
    (hne : OwnOff [(224, tabObj #[])] [e, S.1, c.1, p.1]) (hxs : m₀ xs = some (.str (Str.ofString "") tS))
    (turn : ∀ i t tS u eus ne tabs (sT : Shared) own, i < n → OwnOff own (e :: S.1 :: c.1 :: p.1 :: tabs.map (·.1)) → OwnOff tabs [e, S.1, c.1, p.1] → TabsOk tabs → StrsAre eus (endsAt R i) →
      Fr h₀ env.locals sT.heap (fun y => if y = x then some (.int (i : Int) t) else if y = xs then some (.str (startsAt R i) tS) else if y = xp then u else m₀ y) → News h₀ env.locals sT.heap ((e, listOf eus.toArray ne) :: S :: c :: p :: (tabs ++ own)) →
      wpAny (model prog w) A (execs body env) (InvPostG h₀ env.locals (SlS e S c p x xs xp R m₀ (i + 1)) own sT (fun _ _ => False)) (fun _ _ => False) sT)
    (done : ∀ (u v : Option Value) tS eus ne tabs (sD : Shared), sD.gens = s.gens → sD.os = s.os → OwnOff tabs [e, S.1, c.1, p.1] → TabsOk tabs → StrsAre eus (endsAt R n) →
      Fr h₀ env.locals sD.heap (fun y => if y = x then v else if y = xs then some (.str (startsAt R n) tS) else if y = xp then u else m₀ y) → News h₀ env.locals sD.heap ((e, listOf eus.toArray ne) :: S :: c :: p :: tabs) → Q .next sD) :
    wpAny (model prog w) A (pyIter (.ref r)) (fun it s₂ => LoopAtV prog w A h₀ env x body Q E it s₂) E s := by
  refine rg_loop (SlS e S c p x xs xp R m₀) hh hr hsmall hsz F N (fun _ h => h) ⟨[], ne, tS, [(224, tabObj #[])], rfl, .nil, .inl rfl, hne, hxs, fun _ _ _ _ => rfl⟩ ?_ ?_
  · rintro i t m₁ nx sT own hi hoff ⟨eus, ne', tS', tabs, rfl, hE, hT, ht, hs, hm⟩ F₁ N₁
    rw [map_three hs hm] at F₁
    exact turn i t tS' (m₁ xp) eus ne' tabs sT own hi hoff ht hT hE F₁ N₁
  · rintro m₁ nx sD hg ho ⟨eus, ne', tS', tabs, rfl, hE, hT, ht, hs, hm⟩ F₁ N₁
    rw [done_three hs hm] at F₁
    exact done (m₁ xp) (m₁ x) tS' eus ne' tabs sD hg ho ht hT hE F₁ N₁
theorem sl_end {L e : Addr} {S c p : Addr × Obj} {R : List Str} {i ne : Nat} {eus : List Value} {tabs own news' : List (Addr × Obj)} {m₀ m' : Str → Option Value} {tS : Tok} {s₁ : Shared} {h' : Heap} {tk : Nat} {Q : Flow → Shared → Prop}
    (F : Fr h₀ L h' m') (N : News h₀ L h' news') (h1 : (e, listOf eus.toArray ne) ∈ news') (h2 : S ∈ news') (h3 : c ∈ news') (h4 : p ∈ news') (h5 : ∀ z ∈ tabs, z ∈ news') (h6 : ∀ z ∈ own, z ∈ news')
    (hE : StrsAre eus (endsAt R (i + 1))) (hT : TabsOk tabs) (ht : OwnOff tabs [e, S.1, c.1, p.1]) (hoff : OwnOff own (e :: S.1 :: c.1 :: p.1 :: tabs.map (·.1))) (hs : m' xs = some (.str (startsAt R (i + 1)) tS)) (hm : ∀ z, z ≠ x → z ≠ xs → z ≠ xp → m' z = m₀ z) :
    InvPostG h₀ L (SlS e S c p x xs xp R m₀ (i + 1)) own s₁ Q .next { s₁ with heap := h', toks := tk } :=
  InvEndG.intro F N ⟨eus, ne, tS, tabs, rfl, hE, hT, ht, hs, hm⟩ hoff (fun z hz => by
    rcases List.mem_cons.mp hz with rfl | hz
    · exact h1
    · rcases List.mem_cons.mp hz with rfl | hz
      · exact h2
      · rcases List.mem_cons.mp hz with rfl | hz
        · exact h3
        · rcases List.mem_cons.mp hz with rfl | hz
          · exact h4
          · exact h5 z hz) h6
end
theorem range_small (n : Nat) (h : n ≤ 1000) : Builtin.Range.small 0 (n : Int) 1 = true := small_one (by decide) (by decide) (by omega) (by omega)
theorem range_size (n : Nat) : Builtin.Range.rangeSize 0 (n : Int) 1 = (n : Int) := by rw [rangeSize_one]; split <;> omega

theorem fresh_ygstops69 : True := by
  w_top off
  trivial
theorem tabs_off_list {h₀ h : Heap} {L q : Addr} {its : Array Value} {k : Nat} {news tabs : List (Addr × Obj)} (hT : TabsOk tabs) (N : News h₀ L h news) (hsub : ∀ z ∈ tabs, z ∈ news) (hq : (q, listOf its k) ∈ news) : ∀ z ∈ tabs, q ≠ z.1 := by
  intro z hz e
  have q1 := (N _ hq).1
  have q2 := (N _ (hsub z hz)).1
  have q1 : h.get? q = some (listOf its k) := q1
  rw [e, q2] at q1
  have q3 : z.2 = listOf its k := Option.some.inj q1
  rcases hT with rfl | ⟨c', oc, rfl, vs, t, e1, _⟩
  · rw [List.mem_singleton.mp hz] at q3
    exact absurd (congrArg Obj.cls q3) (by simp)
  · rcases List.mem_cons.mp hz with rfl | hz
    · exact absurd (congrArg Obj.cls q3) (by simp)
    · rw [List.mem_singleton.mp hz] at q3
      have q3 : oc = listOf its k := q3
      rw [q3] at e1; cases e1
section
variable {w : World} {p : Program} {loose : List Str} {mean : ExcName → Option Value} {mg mb : Str → Option Value} {dp un : Nat} {gd : Option (List Code)} {cn : Str} {cs : Scope} {a : Addr} {ccd : Value} {cl : List (Str × Addr)} {outer : List Env} {A₀ : Around} {base h₀ : Heap} {L : Addr} {m : Str → Option Value} {s : Shared} {Q E : Value → Shared → Prop}
theorem stops7 {l1 l2 l3 e : Addr} {vs : List Value} {i2 i3 ie : Array Value} {k1 k2 k3 ke : Nat} {ss : List Str} {S c q : Addr × Obj} {tabs own : List (Addr × Obj)} (B : Below A₀ base outer h₀) (F : Fr h₀ L s.heap m) (X : Frag.In (Mine.kp w.params) h₀)
    (N : News h₀ L s.heap ((l1, listOf vs.toArray k1) :: (l2, listOf i2 k2) :: (l3, listOf i3 k3) :: (e, listOf ie ke) :: S :: c :: q :: (tabs ++ own))) (T : Top p loose mean mg mb h₀) (hk : cs.kind = .function)
    (hdp : dp + 30 < recursionLimit) (hu : un + 8 * 30 < cLine) (hT : TabsOk tabs) (ht : OwnOff tabs [e, S.1, c.1, q.1]) (hoff : OwnOff own (e :: S.1 :: c.1 :: q.1 :: tabs.map (·.1))) (hS : StrsAre vs ss) (hat : ∀ a ∈ ss, Atom a) (hsl : ss.length ≤ 90)
    (ret : ∀ D us n' tabs' tl h' tk', StrsAre us (stopsOf ss) → TabsOk tabs' → OwnOff tabs' [e, S.1, c.1, q.1] → OwnOff own (e :: S.1 :: c.1 :: q.1 :: tabs'.map (·.1)) → (∀ z ∈ tabs', z ∈ tl) → (∀ z ∈ own, z ∈ tl) → OwnOff tl [D, e, S.1, c.1, q.1] → @Ne Nat D e → @Ne Nat D S.1 → @Ne Nat D c.1 → @Ne Nat D q.1 →
      Fr h₀ L h' m → News h₀ L h' ((D, listOf us.toArray n') :: (e, listOf ie ke) :: S :: c :: q :: tl) → Q (.ref D) { s with heap := h', toks := tk' }) :
    wpAny (model PySem.Challenge.rw_qw0042_01.row.prog w) (ktrTop dp un gd cn cs L a ccd cl outer) (call (.ref 229) [.ref l1]) Q E s := by
  have hsub : ∀ z ∈ tabs, z ∈ (l1, listOf vs.toArray k1) :: (l2, listOf i2 k2) :: (l3, listOf i3 k3) :: (e, listOf ie ke) :: S :: c :: q :: (tabs ++ own) := fun z hz => .tail _ (.tail _ (.tail _ (.tail _ (.tail _ (.tail _ (.tail _ (List.mem_append.mpr (.inl hz))))))))
  have hne : ∀ y ∈ [(l1, listOf vs.toArray k1), (l2, listOf i2 k2), (l3, listOf i3 k3), (e, listOf ie ke), S, c, q] ++ own, ∀ z ∈ tabs, y.1 ≠ z.1 := by
    intro y hy z hz
    rcases List.mem_append.mp hy with hy | hy
    · simp only [List.mem_cons, List.not_mem_nil, or_false] at hy
      rcases hy with rfl | rfl | rfl | rfl | rfl | rfl | rfl
      · exact tabs_off_list hT N hsub (.head _) z hz
      · exact tabs_off_list hT N hsub (.tail _ (.head _)) z hz
      · exact tabs_off_list hT N hsub (.tail _ (.tail _ (.head _))) z hz
      · exact Ne.symm (ht z hz _ (.head _))
      · exact Ne.symm (ht z hz _ (.tail _ (.head _)))
      · exact Ne.symm (ht z hz _ (.tail _ (.tail _ (.head _))))
      · exact Ne.symm (ht z hz _ (.tail _ (.tail _ (.tail _ (.head _)))))
    · exact hoff y hy _ (.tail _ (.tail _ (.tail _ (.tail _ (List.mem_map.mpr ⟨z, hz, rfl⟩)))))
  refine stops_any (hd := [(l1, listOf vs.toArray k1), (l2, listOf i2 k2), (l3, listOf i3 k3), (e, listOf ie ke), S, c, q]) B F X N T hk hdp hu (.head _) hT hne hS hat hsl ?_
  intro D us n' tabs' h' tk' hU hT' F' N' hD hne'
  have he : ∀ y ∈ [(e, listOf ie ke), S, c, q], y ∈ [(l1, listOf vs.toArray k1), (l2, listOf i2 k2), (l3, listOf i3 k3), (e, listOf ie ke), S, c, q] := fun y hy => .tail _ (.tail _ (.tail _ hy))
  have hD' : ∀ y ∈ [(e, listOf ie ke), S, c, q], y.1 ≠ D := fun y hy => hD y (List.mem_append.mpr (.inl (he y hy)))
  have ht' : OwnOff tabs' [e, S.1, c.1, q.1] := fun z hz b hb => by
    simp only [List.mem_cons, List.not_mem_nil, or_false] at hb
    have g : ∀ y ∈ [(e, listOf ie ke), S, c, q], z.1 ≠ y.1 := fun y hy => Ne.symm (hne' y (List.mem_append.mpr (.inl (he y hy))) z hz)
    rcases hb with rfl | rfl | rfl | rfl
    · exact g _ (.head _)
    · exact g _ (.tail _ (.head _))
    · exact g _ (.tail _ (.tail _ (.head _)))
    · exact g _ (.tail _ (.tail _ (.tail _ (.head _))))
  have hoff4 : OwnOff own [e, S.1, c.1, q.1] := fun z hz b hb => hoff z hz b (List.mem_append.mpr (.inl hb) : b ∈ [e, S.1, c.1, q.1] ++ tabs.map (·.1))
  refine ret D us n' tabs' (tabs' ++ own) h' tk' hU hT' ht' (fun z hz b hb => ?_) (fun z hz => List.mem_append.mpr (.inl hz)) (fun z hz => List.mem_append.mpr (.inr hz)) (fun z hz b hb => ?_)
    (Ne.symm (hD' _ (.head _))) (Ne.symm (hD' _ (.tail _ (.head _)))) (Ne.symm (hD' _ (.tail _ (.tail _ (.head _))))) (Ne.symm (hD' _ (.tail _ (.tail _ (.tail _ (.head _)))))) F' (fun y hy => ?_)
  · rcases List.mem_append.mp (show b ∈ [e, S.1, c.1, q.1] ++ tabs'.map (·.1) from hb) with hb | hb
    · exact hoff4 z hz b hb
    · obtain ⟨y, hy, rfl⟩ := List.mem_map.mp hb
      exact hne' z (List.mem_append.mpr (.inr hz)) y hy
  · rcases List.mem_cons.mp hb with rfl | hb
    · exact hD z (List.mem_append.mpr (.inr hz))
    · rcases List.mem_append.mp hz with hz | hz
      · exact ht' z hz b hb
      · exact hoff4 z hz b hb
  · rcases List.mem_cons.mp hy with rfl | hy
    · exact N' _ (.head _)
    · exact N' y (.tail _ (.tail _ (.tail _ (.tail _ hy))))
end
theorem rot_atoms {R : List Str} (h : ∀ a ∈ R, Atom a) (k : Nat) : ∀ a ∈ rotR R k, Atom a := fun a ha => by
  rcases List.mem_append.mp ha with ha | ha
  · exact h a (List.mem_of_mem_drop ha)
  · exact h a (List.mem_of_mem_take ha)
theorem rot_len (R : List Str) (k : Nat) : (rotR R k).length = R.length := by unfold rotR; simp; omega
theorem strs_drop : ∀ {us : List Value} {a : List Str}, StrsAre us a → ∀ k : Nat, StrsAre (us.drop k) (a.drop k)
  | _, _, h, 0 => h
  | _, _, .nil, _ + 1 => .nil
  | _, _, .cons _ _ h, k + 1 => strs_drop h k
theorem strs_take : ∀ {us : List Value} {a : List Str}, StrsAre us a → ∀ k : Nat, StrsAre (us.take k) (a.take k)
  | _, _, _, 0 => .nil
  | _, _, .nil, _ + 1 => .nil
  | _, _, .cons c t h, k + 1 => .cons c t (strs_take h k)
theorem rot_strs {us : List Value} {R : List Str} (h : StrsAre us R) (k : Nat) : StrsAre (us.drop k ++ us.take k) (rotR R k) := strs_app (strs_drop h k) (strs_take h k)

theorem fresh_yhlen69 : True := by
  w_top off
  trivial
theorem stops_shape {ss : List Str} (hs : ∀ a ∈ ss, Atom a) : ∃ A' ps', stopsOf ss = A' ++ [jn ps'] ∧ (∀ a ∈ ps', Atom a) ∧ ps'.length ≤ 1 + ss.length ∧ A'.length = ss.length := by
  obtain ⟨A', ps', e, hp, hl, hA⟩ := stops_last hs
  exact ⟨A', ps', e, hp.atoms, hl, hA⟩
theorem stops_ne {ss : List Str} (hs : ∀ a ∈ ss, Atom a) : stopsOf ss ≠ [] := by
  obtain ⟨A', ps', e, _⟩ := stops_shape hs
  rw [e]; simp
theorem stops_length {ss : List Str} (hs : ∀ a ∈ ss, Atom a) : (stopsOf ss).length = ss.length + 1 := by
  obtain ⟨A', ps', e, _, _, hA⟩ := stops_shape hs
  rw [e]; simp [hA]
theorem stops_last_len {ss : List Str} (hs : ∀ a ∈ ss, Atom a) : ((stopsOf ss).getLastD (Str.ofString "")).length ≤ 4 * (1 + ss.length) := by
  obtain ⟨A', ps', e, hp, hl, hA⟩ := stops_shape hs
  rw [e, List.getLastD_concat]
  have := jn_len hp
  omega
theorem getD_len {R : List Str} (hR : ∀ a ∈ R, Atom a) (i : Nat) : (R.getD i (Str.ofString "")).length ≤ 3 := by
  rw [List.getD_eq_getElem?_getD]
  cases e : R[i]? with
  | none => decide +kernel
  | some c => exact (hR c (List.mem_of_getElem? e)).le
theorem str_len_app (a b : Str) : (a ++ b).length = a.length + b.length := by
  rw [← cl_len, cl_app, List.length_append, cl_len, cl_len]
theorem starts_len {R : List Str} (hR : ∀ a ∈ R, Atom a) : ∀ i, (startsAt R i).length ≤ 4 * i
  | 0 => by show (Str.ofString "").length ≤ 0; decide +kernel
  | i + 1 => by
    have h1 := starts_len hR i
    have h2 := getD_len hR i
    have e1 : (Str.ofString "/").length = 1 := by decide +kernel
    unfold startsAt
    split
    · rw [str_len_app, str_len_app, e1]; omega
    · omega
theorem starts_yes {R : List Str} {i : Nat} (h : decide (((stopsOf (rotR R i)).drop 1).filter badB = []) = true) : startsAt R (i + 1) = startsAt R i ++ Str.ofString "/" ++ R.getD i (Str.ofString "") := by
  show (if goodB R i = true then _ else _) = _
  rw [if_pos (show goodB R i = true from h)]
theorem starts_no {R : List Str} {i : Nat} (h : decide (((stopsOf (rotR R i)).drop 1).filter badB = []) = false) : startsAt R (i + 1) = startsAt R i := by
  show (if goodB R i = true then _ else _) = _
  rw [if_neg (by unfold goodB; rw [h]; exact Bool.false_ne_true)]
theorem ends_yes {R : List Str} {i : Nat} {eus : List Value} {t : Tok} (h : decide (((stopsOf (rotR R i)).drop 1).filter badB = []) = true) (hE : StrsAre eus (endsAt R i)) : StrsAre (eus ++ [.str (Str.ofString "/" ++ (stopsOf (rotR R i)).getLastD (Str.ofString "")) t]) (endsAt R (i + 1)) := by
  show StrsAre _ (if goodB R i = true then _ else _)
  rw [if_pos (show goodB R i = true from h)]; exact strs_push hE _ _
theorem ends_no {R : List Str} {i : Nat} {eus : List Value} (h : decide (((stopsOf (rotR R i)).drop 1).filter badB = []) = false) (hE : StrsAre eus (endsAt R i)) : StrsAre eus (endsAt R (i + 1)) := by
  show StrsAre _ (if goodB R i = true then _ else _)
  rw [if_neg (by unfold goodB; rw [h]; exact Bool.false_ne_true)]; exact hE
theorem badB_dot {c : Str} (h : (c == Str.ofString ".") = true) : true = badB c := by unfold badB; rw [h]; rfl
theorem ends_len (R : List Str) : ∀ i, (endsAt R i).length ≤ i
  | 0 => Nat.le_refl _
  | i + 1 => by
    have := ends_len R i
    unfold endsAt
    split
    · rw [List.length_append]; simp; omega
    · omega
theorem fold_short : ∀ (ss ps A : List Str) (N : Nat), ps ≠ [] → (∀ a ∈ ps, Atom a) → (∀ a ∈ ss, Atom a) → (∀ s ∈ A, s.length ≤ 4 * N) → ps.length + ss.length ≤ N → ∀ s ∈ ss.foldl stopStep (A ++ [jn ps]), s.length ≤ 4 * N
  | [], ps, A, N, _, ha, _, hA, hN, s, hs => by
    rcases List.mem_append.mp hs with hs | hs
    · exact hA s hs
    · rw [List.mem_singleton.mp hs]
      have := jn_len ha
      simp at hN; omega
  | c :: ss, ps, A, N, hn, ha, hs, hA, hN, s, hm => by
    have hc := hs c (.head _)
    rw [List.foldl_cons, stopStep_jn (pathOf_jn hn ha) hc] at hm
    have h2 := nextC_len ps c
    refine fold_short ss (nextC ps c) (A ++ [jn ps]) N (nextC_ne _ _) (nextC_atoms ha hc) (fun a h => hs a (.tail _ h)) (fun z hz => ?_) (by simp only [List.length_cons] at hN; omega) s hm
    rcases List.mem_append.mp hz with hz | hz
    · exact hA z hz
    · rw [List.mem_singleton.mp hz]
      have := jn_len ha
      simp only [List.length_cons] at hN; omega
theorem stops_short {ss : List Str} (hs : ∀ a ∈ ss, Atom a) : ∀ s ∈ stopsOf ss, s.length ≤ 4 * (1 + ss.length) :=
  fold_short ss [Str.ofString "."] [] (1 + ss.length) (by simp) (fun a h => by rw [List.mem_singleton.mp h]; exact atom_dot) hs (fun _ h => nomatch h) (by simp)
theorem badB_dd {c : Str} (h1 : (c == Str.ofString ".") = false) (h2 : (Txt.slice c none (some 2) == Str.ofString "..") = true) : true = badB c := by unfold badB; rw [h1, h2]; rfl
theorem badB_no {c : Str} (h1 : (c == Str.ofString ".") = false) (h2 : (Txt.slice c none (some 2) == Str.ofString "..") = false) : false = badB c := by unfold badB; rw [h1, h2]; rfl

theorem fresh_yicomp69 : True := by
  w_top off
  trivial
section
variable {prog : Program} {w : World} {A : Around} {h₀ : Heap} {L : Addr} {m : Str → Option Value} {env : Env} {elt : Expr} {x : Str} {scope : Scope} {cl : List (Str × Addr)} {s : Shared} {S : List (Addr × Obj) → Prop} {Fin : List Value → List (Addr × Obj) → Prop} {news : List (Addr × Obj)}
theorem compR_strs {n : Nat} (g : Nat → Str) (hSn : S news)
    (turn : ∀ i t I oI C oC D m₂ ys (sT : Shared) (E' : Value → Shared → Prop), i < n → LCg.NsObj oC m₂ → m₂ x = some (.int (i : Int) t) → Fr h₀ L sT.heap m → News h₀ L sT.heap ((I, oI) :: (C, oC) :: (D, LCg.lst ys) :: news) → LCg.Off3 I C D news → ((@Ne Nat I C) ∧ (@Ne Nat I D) ∧ (@Ne Nat C D)) →
      wpAny (model prog w) A (eval elt (compEnvC scope cl C env)) (fun y s' => ∃ t' h' tk', y = .str (g i) t' ∧ s' = { sT with heap := h', toks := tk' } ∧ Fr h₀ L h' m ∧ News h₀ L h' ((I, oI) :: (C, oC) :: (D, LCg.lst ys) :: news)) E' sT)
    (fin : ∀ ys, StrsAre ys ((List.range n).map g) → Fin ys news) :
    LCg.CompRest prog w A h₀ L m env elt x scope cl s S (fun i v => ∃ t, v = .int (0 + (i : Int)) t) Fin n 0 [] news := by
  have key : ∀ (j i : Nat) (ys : List Value), i + j = n → StrsAre ys ((List.range i).map g) → LCg.CompRest prog w A h₀ L m env elt x scope cl s S (fun i v => ∃ t, v = .int (0 + (i : Int)) t) Fin j i ys news := by
    intro j
    induction j with
    | zero =>
      intro i ys hi hy
      have e : i = n := by omega
      subst e
      exact LCg.CompRest.zero (fin ys hy)
    | succ j ih =>
      intro i ys hi hy
      refine LCg.CompRest.succ ?_
      rintro v I oI C oC D m₂ h tk E' ⟨t, rfl⟩ hC hx F N off ne
      have e0 : (0 : Int) + (i : Int) = (i : Int) := by omega
      rw [e0] at hx
      refine wpAny_mono (turn i t I oI C oC D m₂ ys { s with heap := h, toks := tk } E' (by omega) hC hx F N off ne) (fun y s' hq => ?_) fun _ _ e => e
      obtain ⟨t', h', tk', rfl, rfl, F', N'⟩ := hq
      refine LCg.CompEnd.intro F' N' news (fun p hp => hp) off hSn (ih (i + 1) _ (by omega) ?_)
      rw [List.range_succ, List.map_append]
      exact strs_push hy _ _
  exact key n 0 [] (by omega) .nil
end

theorem fresh_yjpure69 : True := by
  w_top off
  trivial
noncomputable def pathStep (acc : List (List Str)) (c : Str) : List (List Str) := acc ++ [nextC (acc.getLastD [Str.ofString "."]) c]
noncomputable def pathsOf (ss : List Str) : List (List Str) := ss.foldl pathStep [[Str.ofString "."]]
theorem fold_paths : ∀ (ss : List Str) (A : List (List Str)) (ps : List Str), ps ≠ [] → (∀ a ∈ ps, Atom a) → (∀ a ∈ ss, Atom a) → ss.foldl stopStep ((A ++ [ps]).map jn) = (ss.foldl pathStep (A ++ [ps])).map jn
  | [], _, _, _, _, _ => rfl
  | c :: ss, A, ps, hn, ha, hs => by
    have hc := hs c (.head _)
    have e1 : stopStep ((A ++ [ps]).map jn) c = ((A ++ [ps]) ++ [nextC ps c]).map jn := by
      rw [List.map_append, List.map_cons, List.map_nil, stopStep_jn (pathOf_jn hn ha) hc]
      simp
    have e2 : pathStep (A ++ [ps]) c = (A ++ [ps]) ++ [nextC ps c] := by
      unfold pathStep; rw [List.getLastD_concat]
    rw [List.foldl_cons, List.foldl_cons, e1, e2]
    exact fold_paths ss (A ++ [ps]) (nextC ps c) (nextC_ne _ _) (nextC_atoms ha hc) fun a h => hs a (.tail _ h)
theorem stops_paths {ss : List Str} (hs : ∀ a ∈ ss, Atom a) : stopsOf ss = (pathsOf ss).map jn :=
  fold_paths ss [] [Str.ofString "."] (by simp) (fun a h => by rw [List.mem_singleton.mp h]; exact atom_dot) hs
noncomputable def keptR (R : List Str) : Str := keptOf ((List.foldl pileStep [] (R ++ R)).take ((if (R.length : Int) - 2 * ((R.countP (fun y => y == Str.ofString "..") : Nat) : Int) > 0 then (R.length : Int) - 2 * ((R.countP (fun y => y == Str.ofString "..") : Nat) : Int) else 0).toNat))
noncomputable def endsR (kept : Str) : List Str := (List.range (kept.length / 2)).map fun (j : Nat) => Txt.slice kept (some (2 * (j : Int))) none ++ Txt.slice kept none (some (2 * (j : Int)))
/-- both sides at once, by the paths -/
noncomputable def walkR (R : List Str) : Nat → Str × List Str
  | 0 => (Str.ofString "", [])
  | i + 1 => match walkR R i, (pathsOf (rotR R i)).map jn with
    | (a, es), st => if ((st.drop 1).filter badB).isEmpty then (a ++ Str.ofString "/" ++ R.getD i (Str.ofString ""), es ++ [Str.ofString "/" ++ st.getLastD (Str.ofString "")]) else (a, es)
noncomputable def checkR (R : List Str) : Bool := match walkR R R.length, keptR R with
  | (a, es), k => (a == k) && (es == endsR k)
theorem walkR_is {R : List Str} (hR : ∀ a ∈ R, Atom a) : ∀ i, walkR R i = (startsAt R i, endsAt R i)
  | 0 => rfl
  | i + 1 => by
    have ih := walkR_is hR i
    have e := stops_paths (rot_atoms hR i)
    unfold walkR startsAt endsAt
    rw [ih, ← e]
    dsimp only
    have hg : goodB R i = (((stopsOf (rotR R i)).drop 1).filter badB).isEmpty := by
      unfold goodB
      cases ((stopsOf (rotR R i)).drop 1).filter badB <;> simp
    rw [hg]
    split <;> rfl
theorem check_is {R : List Str} (hR : ∀ a ∈ R, Atom a) (h : checkR R = true) : startsAt R R.length = keptR R ∧ endsAt R R.length = endsR (keptR R) := by
  unfold checkR at h
  rw [walkR_is hR] at h
  dsimp only at h
  rw [Bool.and_eq_true] at h
  exact ⟨eq_of_beq h.1, eq_of_beq h.2⟩
noncomputable def ringB (bs : List Bool) : List Str := bs.foldl (fun acc b => acc ++ [if b then Str.ofString ".." else ⟨#[97 + acc.length]⟩]) []

theorem fresh_ykpure269 : True := by
  w_top off
  trivial
theorem ring_bits : ∀ (ns : List Int) (acc : List Str), ns.foldl ringStep acc = (ns.map fun k => decide (k % 3 = 0)).foldl (fun acc b => acc ++ [if b then Str.ofString ".." else ⟨#[97 + acc.length]⟩]) acc
  | [], _ => rfl
  | k :: ns, acc => by
    rw [List.foldl_cons, List.map_cons, List.foldl_cons, ring_bits ns]
    have e : ringStep acc k = acc ++ [if decide (k % 3 = 0) then Str.ofString ".." else ⟨#[97 + acc.length]⟩] := by
      unfold ringStep
      have e2 : (97 + (acc.length : Int)).toNat = 97 + acc.length := by omega
      rw [e2]
      by_cases h : k % 3 = 0 <;> simp [h]
    rw [e]
noncomputable def tailB : List Bool := [false, true, false, false]
theorem bits_tail : ([1, 3, 2, 4] : List Int).map (fun k => decide (k % 3 = 0)) = tailB := by decide
theorem ring_is (ns : List Int) : List.foldl ringStep [] (ns ++ [1, 3, 2, 4]) = ringB ((ns.map fun k => decide (k % 3 = 0)) ++ tailB) := by
  rw [ring_bits, List.map_append, bits_tail]; rfl
noncomputable def okB (bs : List Bool) : Bool := checkR (ringB (bs ++ tailB))
theorem ok0 : okB [] = true := by decide +kernel
theorem ok1 : ∀ a, okB [a] = true := by decide +kernel
theorem ok2 : ∀ a b, okB [a, b] = true := by decide +kernel
theorem ok3 : ∀ a b c, okB [a, b, c] = true := by decide +kernel
theorem ok4a : ∀ b c d, okB [true, b, c, d] = true := by decide +kernel
theorem ok4b : ∀ b c d, okB [false, b, c, d] = true := by decide +kernel
theorem ok5a : ∀ c d e, okB [true, true, c, d, e] = true := by decide +kernel
theorem ok5b : ∀ c d e, okB [true, false, c, d, e] = true := by decide +kernel
theorem ok5c : ∀ c d e, okB [false, true, c, d, e] = true := by decide +kernel
theorem ok5d : ∀ c d e, okB [false, false, c, d, e] = true := by decide +kernel
theorem ok_all : ∀ bs : List Bool, bs.length ≤ 5 → okB bs = true
  | [], _ => ok0
  | [a], _ => ok1 a
  | [a, b], _ => ok2 a b
  | [a, b, c], _ => ok3 a b c
  | [true, b, c, d], _ => ok4a b c d
  | [false, b, c, d], _ => ok4b b c d
  | [true, true, c, d, e], _ => ok5a c d e
  | [true, false, c, d, e], _ => ok5b c d e
  | [false, true, c, d, e], _ => ok5c c d e
  | [false, false, c, d, e], _ => ok5d c d e
  | _ :: _ :: _ :: _ :: _ :: _ :: _, h => by simp only [List.length_cons] at h; omega
theorem pure_law (script : List Int) {R : List Str} (hR : R = List.foldl ringStep [] (List.take 5 script ++ [1, 3, 2, 4])) (hA : ∀ a ∈ R, Atom a) : startsAt R R.length = keptR R ∧ endsAt R R.length = endsR (keptR R) := by
  refine check_is hA ?_
  rw [hR, ring_is]
  exact ok_all _ (by rw [List.length_map]; exact List.length_take_le 5 script)

theorem fresh_zapost69 : True := by
  w_top off
  trivial
/-- what the law's body must bring -/
def LawEnd (s₁ : Shared) (tabs : List (Addr × Addr)) (v : Value) (s' : Shared) : Prop :=
  v = .bool true ∧ (∀ b o, (ghostOf s₁.heap tabs).get? b = some o → s'.heap.get? b = some o) ∧ GrownAll tabs s'.heap ∧ s'.os = s₁.os ∧ AllBare s'.gens
def LawBack (s₁ : Shared) (tabs : List (Addr × Addr)) (r : Result) (s' : Shared) : Prop := match r with
  | .ok (.ret v) => LawEnd s₁ tabs v s'
  | _ => False
theorem law_post {M : Model} {A : Around} {cd : Code} {s s₁ : Shared} {cw : ClaimW} {cl : Str → Option Addr} {mean : ExcName → Option Value} {args : List WData} {tabs : List (Addr × Addr)} (hT : TabsAt tabs s₁.heap) (hr : ∀ a x, cw.raises a x = false) (hp : cw.post args (.bool true) args = true)
    (h : codeAny M A cd (LawBack s₁ tabs) s) : codeAny M A cd (GoodWG cw cl mean args s₁) s :=
  codeAny_mono h fun r s' hb => by
    have hb' : ∃ v, r = .ok (.ret v) ∧ LawEnd s₁ tabs v s' := by
      unfold LawBack at hb
      split at hb
      · exact ⟨_, rfl, hb⟩
      · exact hb.elim
    obtain ⟨v, rfl, rfl, hk, hgr, hos, hg⟩ := hb'
    have keep : ∀ b o, b ∉ tabs.map (·.2) → s₁.heap.get? b = some o → s'.heap.get? b = some o := fun b o hb e => hk b o (ghost_ne e hb)
    have grown : ∀ b o, b ∈ tabs.map (·.2) → s₁.heap.get? b = some o → isCodeTable s₁.heap b ∧ o = tabObj #[] ∧ ∃ ps, s'.heap.get? b = some (tabObj ps) := fun b o hb e => by
      obtain ⟨q, hq, rfl⟩ := List.mem_map.mp hb
      have e2 := (hT q hq).2
      rw [e] at e2
      exact ⟨((hT q hq).1.tab (hT q hq).2).isCodeTable, Option.some.inj e2, hgr.get q hq⟩
    refine ⟨.inl ⟨.bool true, .bool true, [], rfl, fun x => hr _ _, .bool true, hp, fun _ => ⟨.nil, fun _ ha => nomatch ha⟩⟩, ⟨fun b o e => ?_, fun b o e => ?_⟩, hos, hg⟩
    · by_cases hb : b ∈ tabs.map (·.2)
      · obtain ⟨ht, rfl, ps, hP⟩ := grown b o hb e
        exact .inr (.inl ⟨ht, rfl, #[], ps, rfl, by rw [Array.empty_append]; exact hP⟩)
      · exact .inl (keep b o hb e)
    · by_cases hb : b ∈ tabs.map (·.2)
      · obtain ⟨_, _, ps, hP⟩ := grown b o hb e
        exact ⟨_, hP⟩
      · exact ⟨_, keep b o hb e⟩

theorem lines_zloop69 : True := by
  k_with "exec For Name BinOp cons nil" => (k_here; (rename Fr _ _ _ _ => lF''w); (with_unfolding_all refine' For_invVF lF''w ?k1'w ?k2'w ?_; (case k1'w => exact rfl); (case k2'w => exact rfl); k_whole))
  k_with "pyIter ref" => ((with_reducible show wpAny _ _ (pyIter (Value.ref _)) (fun it s₂ => LoopAtV _ _ _ _ _ _ _ _ _ it s₂) _ _); refine hold_of ?_)
  k_with "call builtin:list.append nil" => (k_here; (try simp only [List.cons_append, List.nil_append]); (with_reducible show wpAny _ _ (call (Value.builtin "list.append") [Value.ref _, _]) _ _ _); with_reducible (refine' append_any ?kF'w ?kN'w ?kU'w ?kz'w ?_; (case kF'w => assumption); (case kN'w => assumption); (case kU'w => with_reducible_and_instances k_upd); (case kz'w => first | omega | (simp only [List.length_append, List.length_cons, List.length_nil]; omega)); k_whole); intro h''w F''w N''w; (try k_sweep))
  trivial

theorem lines_zuse69 : True := by
  k_with "call ref" => (k_here; (show wpAny _ _ (call (Value.ref 101) []) _ _ _); (try k_fold); k_dflt (refine' make_use ?k1'w ?k2'w ?k3'w ?k4'w ?k5'w ?kK'w ?kd'w ?ku'w ?_; (case k1'w => k_asm); (case k2'w => k_asm); (case k3'w => k_asm); (case k4'w => k_asm); (case k5'w => k_asm); (case kK'w => first | exact rfl | assumption); (case kd'w => ktr_room); (case ku'w => ktr_units)); intro x9'w d9'w n9'w t9'w u9'w h9'w tk9'w F9'w N9'w l9'w l8'w; (try k_lt l9'w); (try dsimp only); (try k_fold))
  k_with "call ref" => (k_here; (show wpAny _ _ (call (Value.ref 45) [Value.ref _, Value.str _ _, Value.str _ _]) _ _ _); (try k_fold); k_dflt (refine' push_use ?k1'w ?k2'w ?k3'w ?k4'w ?k5'w ?kK'w ?kd'w ?ku'w ?kU'w ?km'w ?kn'w ?kz'w ?_; (case k1'w => k_asm); (case k2'w => k_asm); (case k3'w => k_asm); (case k4'w => k_asm); (case k5'w => k_asm); (case kK'w => first | exact rfl | assumption); (case kd'w => ktr_room); (case ku'w => ktr_units); (case km'w => with_reducible_and_instances k_mem); (case kn'w => with_reducible_and_instances k_mem); (case kU'w => with_reducible_and_instances k_updF); (case kz'w => omega)); intro T9'w h9'w tk9'w F9'w N9'w l9'w; (try dsimp only at N9'w); (try dsimp only); (try k_fold))
  k_with "call ref" => (k_here; (show wpAny _ _ (call (Value.ref 61) [Value.ref _]) _ _ _); (try k_fold); k_dflt (refine' pop_use ?k1'w ?k2'w ?k3'w ?k4'w ?k5'w ?kK'w ?kd'w ?ku'w ?kU'w ?km'w ?kn'w ?kz'w ?_; (case k1'w => k_asm); (case k2'w => k_asm); (case k3'w => k_asm); (case k4'w => k_asm); (case k5'w => k_asm); (case kK'w => first | exact rfl | assumption); (case kd'w => ktr_room); (case ku'w => ktr_units); (case km'w => with_reducible_and_instances k_mem); (case kn'w => with_reducible_and_instances k_mem); (case kU'w => with_reducible_and_instances k_updF); (case kz'w => omega)); intro r9'w n9'w h9'w tk9'w F9'w N9'w; (try dsimp only at N9'w); (try dsimp only); (try k_fold))
  k_with "call ref" => (k_here; (show wpAny _ _ (call (Value.ref 53) [Value.ref _, Value.int _ _]) _ _ _); (try k_fold); k_dflt (refine' popfrom_use ?k1'w ?k2'w ?k3'w ?k4'w ?k5'w ?kK'w ?kd'w ?ku'w ?kU'w ?km'w ?kn'w ?kz'w ?ki'w ?_; (case k1'w => k_asm); (case k2'w => k_asm); (case k3'w => k_asm); (case k4'w => k_asm); (case k5'w => k_asm); (case kK'w => first | exact rfl | assumption); (case kd'w => ktr_room); (case ku'w => ktr_units); (case km'w => with_reducible_and_instances k_mem); (case kn'w => with_reducible_and_instances k_mem); (case kU'w => with_reducible_and_instances k_updF); (case kz'w => omega); (case ki'w => first | omega | (split <;> omega))); intro r9'w n9'w h9'w tk9'w F9'w N9'w; (try dsimp only at N9'w); (try dsimp only); (try k_fold))
  k_with "call ref" => ((show wpAny _ _ (call (Value.ref 75) [Value.ref _]) _ _ _); refine hold_of ?_)
  trivial

theorem fresh_law70 : True := by
  w_top off
  trivial
set_option maxHeartbeats 4000000 in
theorem law_holds : PySem.Challenge.rw_qw0042_01.Holds := hd (by
  k_fill
  intro w s₀ s₁ mg mb G Y fa o pm cd doc dV kV ho hd hcd hD hmg hg args vals as hpre hlay hrd hwl hlo
  have KX := km_in_of Y
  have hT8 := km_tabs_of Y
  have X := (Ground.X G).1
  have V := (Ground.X G).2
  refine Ground.open G ?_
  intro T B D TE TW
  try (refine guard_noD D (by decide +kernel) ?_; clear D)
  have hT9 : TabsAt [(74, 70), (228, 224)] _ := List.forall_mem_cons.mpr ⟨⟨codeHd_of_K (c := 74) (P := 70) KX (by kernel_rfl), hT8 70 (by k_mem)⟩, List.forall_mem_cons.mpr ⟨⟨codeHd_of_K (c := 228) (P := 224) KX (by kernel_rfl), hT8 224 (by k_mem)⟩, fun _ h => nomatch h⟩⟩
  clear hmg
  wrow_args hpre hlay hrd hwl hlo
  all_goals (
    first | refine callC_kw (enter_call ?_) | refine enter_call ?_
    w_top on
    refine law_post hT9 (fun _ _ => rfl) (by first | with_unfolding_all rfl | kernel_rfl | fin_arith | law_fin) ?_
    w_call any ho hd hcd hD T F
    clear hd
    kn_ghosts F T
    k_drop
    skip)
  all_goals try k_fold
  refine wpAny_mono (Q := fun fl s' => ∃ v, fl = .ret v ∧ LawEnd s₁ [(74, 70), (228, 224)] v s') (E := fun _ _ => False) ?walk ?post fun _ _ h => h.elim
  case post =>
    rintro _ s' ⟨v, rfl, hv⟩
    exact hv
  case walk =>
    dsimp only
    k_steps
    unfold Hold
    rename (Fr _ _ _ _) => F1
    rename (News _ _ _ _) => N1
    rename (IntsAre _ (List.take 5 _ ++ [1, 3, 2, 4])) => hI1
    rename (List Int) => script
    refine li_loop7 (us₀ := []) rfl F1 N1 hI1 .nil ?turn1 ?done1
    case done1 =>
      intro u us n sD hgD hoD hU F2 N2
      clear F1 N1
      have hgD' : sD.gens = #[] := hgD.trans hg
      have hoD' : sD.os = s₁.os := hoD
      clear hgD hoD
      obtain ⟨hD0, gD, dD, tD, oD⟩ := sD
      replace F2 : Fr (ghostOf s₁.heap [(74, 70), (228, 224)]) s₁.heap.objs.size hD0 _ := F2
      replace N2 : News (ghostOf s₁.heap [(74, 70), (228, 224)]) s₁.heap.objs.size hD0 _ := N2
      clear hI1
      have hul : us.length ≤ 50 := by
        have h1 := hU.length
        rw [ring_len] at h1
        have h3 := List.length_take_le 5 script
        simp only [List.length_take, List.length_append, List.length_cons, List.length_nil] at h1
        omega
      obtain ⟨R, hR, hU⟩ : ∃ R, R = List.foldl ringStep [] (List.take 5 script ++ [1, 3, 2, 4]) ∧ StrsAre us R := ⟨_, rfl, hU⟩
      dsimp only
      k_steps
      unfold Hold
      rename (Fr _ _ _ _) => F3
      rename (News _ _ _ _) => N3
      refine pl_loop8 rfl F3 N3 (strs_app hU hU) ?turn2 ?done2
      case done2 =>
        intro u2 its n2 tups sD hgE hoE hP ht F2 N2
        clear F3 N3
        have hgE' : sD.gens = #[] := by rw [hgE]; exact hgD'
        have hoE' : sD.os = s₁.os := by rw [hoE]; exact hoD'
        clear hgE hoE hgD' hoD'
        have hzl : its.length ≤ 1000 := by
          have h1 := hP.1
          have h2 := hU.length
          have h3 := pile_fold_len (R ++ R) []
          rw [List.length_append] at h3
          simp only [List.length_nil] at h3
          omega
        obtain ⟨hD0, gD, dD, tD, oD⟩ := sD
        replace F2 : Fr (ghostOf s₁.heap [(74, 70), (228, 224)]) s₁.heap.objs.size hD0 _ := F2
        replace N2 : News (ghostOf s₁.heap [(74, 70), (228, 224)]) s₁.heap.objs.size hD0 _ := N2
        dsimp only
        repeat (first | (dsimp only; walk1) | walk1)
        unfold Hold
        rename (Fr _ _ _ _) => F5
        rename (News _ _ _ _) => N5
        have hRa : ∀ a ∈ R, Atom a := by rw [hR]; exact ring_atoms _ _ (fun a h => nomatch h)
        k_dflt (refine' str_use ?w1 ?w2 ?w3 ?w4 ?wK ?wd ?wu ?wm ?wU ?w7 ?wA ?wG ?wz ?wc ?wret; (case w1 => exact F5); (case w2 => k_asm); (case w3 => exact N5); (case w4 => k_asm); (case wK => first | exact rfl | assumption); (case wd => ktr_room); (case wu => ktr_units); (case wm => with_reducible_and_instances k_mem); (case wU => with_reducible_and_instances k_updF); (case w7 => with_reducible_and_instances k_mem))
        case wA => exact pile_in_are N5 (fun z hz => .tail _ (.tail _ (.tail _ (.tail _ (.tail _ (.tail _ (.tail _ hz))))))) (pile_in_take hP _)
        case wG => exact .of_eq hgE'
        case wz => exact Nat.le_trans (List.length_take_le' _ _) hzl
        case wc => exact kept_short hRa _
        case wret =>
          intro kept tK ps sE hkept hoF hgF F6 N6
          clear F5 N5
          try dsimp only at N6
          have hoF' : sE.os = s₁.os := by rw [hoF]; exact hoE'
          clear hoF hgE' hoE'
          obtain ⟨hE0, gE, dE, tE, oE⟩ := sE
          replace F6 : Fr (ghostOf s₁.heap [(74, 70), (228, 224)]) s₁.heap.objs.size hE0 _ := F6
          replace N6 : News (ghostOf s₁.heap [(74, 70), (228, 224)]) s₁.heap.objs.size hE0 _ := news_sub4 N6
          dsimp only [StrBack]
          repeat (first | (dsimp only; walk1) | walk1)
          unfold Hold
          rename (Fr _ _ _ _) => F7
          rename (News _ _ _ _) => N7
          rename (IsRange _ _ _ _ _ _ _ _) => hr9
          refine sl_loop (R := R) (ne := 0) (n := us.length) (xs := Str.ofString "starts") (xp := Str.ofString "stops") rfl hr9 (range_small _ (by omega)) (range_size _) F7 N7 ?hne rfl ?turn3 ?done3
          case hne =>
            intro z hz b hb
            rw [List.mem_singleton.mp hz]
            simp only [List.mem_cons, List.not_mem_nil, or_false] at hb
            rcases hb with rfl | rfl | rfl | rfl
            all_goals (intro q9; have q8 : @Eq Nat _ _ := q9; (try dsimp only at q8); omega)
          case done3 =>
            intro u3 v3 tS eus ne tabs sD hgG hoG ht hT hE F2 N2
            clear F7 N7 hr9
            have hgG' : AllBare sD.gens := by rw [hgG]; exact hgF
            have hoG' : sD.os = s₁.os := by rw [hoG]; exact hoF'
            clear hgG hoG hgF hoF'
            have hpl := pure_law script hR hRa
            have hke : kept = keptR R := by rw [hkept, hU.length]; rfl
            have hst : startsAt R us.length = kept := by rw [hU.length, hke]; exact hpl.1
            have hen : endsAt R us.length = (List.range (kept.length / 2)).map fun (j : Nat) => Txt.slice kept (some (2 * (j : Int))) none ++ Txt.slice kept none (some (2 * (j : Int))) := by rw [hU.length, hke]; exact hpl.2
            have hkl : kept.length ≤ 1000 := by rw [← hst]; have := starts_len hRa us.length; omega
            have hfd : (kept.length : Int).fdiv 2 = ((kept.length / 2 : Nat) : Int) := by rw [Int.fdiv_eq_ediv_of_nonneg _ (by decide)]; omega
            clear hpl hke
            rw [hst] at F2
            rw [hen] at hE
            obtain ⟨hD0, gD, dD, tD, oD⟩ := sD
            replace F2 : Fr (ghostOf s₁.heap [(74, 70), (228, 224)]) s₁.heap.objs.size hD0 _ := F2
            replace N2 : News (ghostOf s₁.heap [(74, 70), (228, 224)]) s₁.heap.objs.size hD0 _ := N2
            dsimp only
            iterate 13 (first | (dsimp only; walk1) | walk1)
            case' refine_2 => exact absurd (show (kept == kept) = false from by assumption) (by rw [beq_self_eq_true]; exact Bool.noConfusion)
            unfold Hold
            rename (Fr _ _ _ _) => F10
            rename (News _ _ _ _) => N10
            refine LCg.ListComp_U (cl := [(Str.ofString "kept", s₁.heap.objs.size + 1)]) F10 ?hclos ?hcell ?hkind ?hnames ?hx ?hcmp ?hs9
            case hclos => with_unfolding_all rfl
            case hcell => decide
            case hkind => rfl
            case hnames => decide
            case hx => rfl
            case hs9 => intro _; with_unfolding_all rfl
            case hcmp =>
              iterate 11 (first | (dsimp only; walk1) | walk1)
              refine P.len_str (by omega) ?_
              iterate 4 (first | (dsimp only; walk1) | walk1)
              rename (IsRange _ _ _ _ _ _ _ _) => hr5
              rename (Fr _ _ _ _) => F11
              rename (News _ _ _ _) => N11
              refine LCg.CompSrc.range (n := kept.length / 2) rfl F11 N11 hr5 ?hsm5 ?hsz5 (by rw [sizeLine_eq]; omega) ?_
              case hsm5 => rw [hfd]; exact range_small _ (by omega)
              case hsz5 => rw [hfd]; exact range_size _
              intro g9
              refine compR_strs (fun (j : Nat) => Txt.slice kept (some (2 * (j : Int))) none ++ Txt.slice kept none (some (2 * (j : Int)))) ?hsn5 ?turn5 ?fin5
              case hsn5 => trivial
              case turn5 =>
                intro i t I oI C oC D5 m₂ ys sC E' hi hC hx F12 N12 off ne9
                clear F11 N11
                obtain ⟨hC0, gC, dC, tC, oC9⟩ := sC
                replace F12 : Fr (ghostOf s₁.heap [(74, 70), (228, 224)]) s₁.heap.objs.size hC0 _ := F12
                replace N12 : News (ghostOf s₁.heap [(74, 70), (228, 224)]) s₁.heap.objs.size hC0 _ := N12
                iterate 23 (first | (dsimp only; walk1) | walk1)
                refine SB.add (fun t9 k9 => ⟨t9, _, _, rfl, rfl, by k_asm, by k_asm⟩) (by rw [sizeLine_eq]; omega)
              case fin5 =>
                intro ys hY
                unfold LCg.FinE
                intro D6 h6 tk6 F13 N13 off6
                (try simp only [LCg.Off1, and_true] at off6)
                clear F11 N11
                repeat (first | (dsimp only; walk1) | walk1)
                unfold Hold
                rename (Fr _ _ _ _) => F14
                rename (News _ _ _ _) => N14
                refine eq_strs_K (us := eus) (vs := ys) N14 (by with_reducible_and_instances k_mem) (by with_reducible_and_instances k_mem) hE hY (by ktr_units) ?_
                repeat (first | (dsimp only; walk1) | walk1)
                refine ⟨congrArg Value.bool (decide_eq_true rfl), F14.keep, ⟨GrownAt.of (ps := ps) N14 (by with_reducible_and_instances k_mem), ?_, trivial⟩, hoG', hgG'⟩
                rcases hT with rfl | ⟨c', oc, rfl, _⟩
                · exact ⟨_, (N14 (224, tabObj #[]) (by with_reducible_and_instances k_mem)).1⟩
                · exact ⟨_, (N14 (224, tbl c') (by with_reducible_and_instances k_mem)).1⟩
          -- <turn3>
          case turn3 =>
            intro i t tS u3 eus ne tabs sT own hi hoff ht hT hE F2 N2
            clear F7 N7 hr9
            have hiR : i < R.length := by rw [← hU.length]; exact hi
            have hRlen : R.length ≤ 50 := by rw [← hU.length]; exact hul
            have hra := rot_atoms hRa i
            have hrl : (rotR R i).length = R.length := rot_len R i
            have heu : eus.length ≤ 1000 := by have h1 := hE.length; have h2 := ends_len R i; omega
            have hsne : stopsOf (rotR R i) ≠ [] := stops_ne hra
            have hslen : (stopsOf (rotR R i)).length ≤ 100000 := by rw [stops_length hra, hrl]; omega
            have hst1 : (startsAt R i).length ≤ 1000 := by have := starts_len hRa i; omega
            have hgd1 : (R.getD i (Str.ofString "")).length ≤ 1000 := by have := getD_len hRa i; omega
            have hla1 : ((stopsOf (rotR R i)).getLastD (Str.ofString "")).length ≤ 1000 := by have := stops_last_len hra; rw [hrl] at this; omega
            obtain ⟨hT0, gT, dT, tT, oT⟩ := sT
            replace F2 : Fr (ghostOf s₁.heap [(74, 70), (228, 224)]) s₁.heap.objs.size hT0 _ := F2
            replace N2 : News (ghostOf s₁.heap [(74, 70), (228, 224)]) s₁.heap.objs.size hT0 _ := N2
            (show wpAny _ _ _ _ _ _); (try k_fold)
            iterate 14 (first | (dsimp only; walk1) | walk1)
            refine' strs_from ?F1 ?N1 ?l1 ?_ ?s1 ?t1 ?z1
            (case F1 => k_asm)
            (case N1 => k_asm)
            (case l1 => with_reducible_and_instances k_mem)
            (case s1 => with_unfolding_all rfl)
            (case t1 => kmk_pure)
            (case z1 => omega)
            intro D1 h1 F3 N3 l1
            clear F2 N2
            iterate 7 (first | (dsimp only; walk1) | walk1)
            refine' strs_upto ?F1 ?N1 ?l1 ?_ ?s1 ?t1 ?z1
            (case F1 => k_asm)
            (case N1 => k_asm)
            (case l1 => with_reducible_and_instances k_mem)
            (case s1 => with_unfolding_all rfl)
            (case t1 => kmk_pure)
            (case z1 => omega)
            intro D2 h2 F4 N4 l2
            clear F3 N3
            refine' add_two ?F1 ?N1 ?l1 ?l2 ?z1 ?_
            (case F1 => k_asm)
            (case N1 => k_asm)
            (case l1 => with_reducible_and_instances k_mem)
            (case l2 => with_reducible_and_instances k_mem)
            (case z1 => simp only [List.length_drop, List.length_take]; omega)
            intro D3 h3 F5 N5 l3
            clear F4 N4
            repeat (first | (dsimp only; walk1) | walk1)
            unfold Hold
            k_dflt (refine' stops7 ?w1 ?w2 ?w3 ?w4 ?w5 ?wK ?wd ?wu ?wT ?wt ?wo ?wS ?wA ?wl ?wret; (case w1 => k_asm); (case w2 => exact F5); (case w3 => k_asm); (case w4 => exact N5); (case w5 => k_asm); (case wK => first | exact rfl | assumption); (case wd => ktr_room); (case wu => ktr_units); (case wT => exact hT); (case wt => exact ht); (case wo => exact hoff); (case wS => exact rot_strs hU i); (case wA => exact rot_atoms hRa i); (case wl => rw [rot_len, ← hU.length]; omega))
            intro D us9 n9 tabs9 tl h9 tk9 hU9 hT9' ht9 hoff9 hs1 hs2 htl nD1 nD2 nD3 nD4 F9 N9
            clear F5 N5
            try dsimp only
            repeat (first | (dsimp only; walk1) | walk1)
            unfold Hold
            rename (Fr _ _ _ _) => F10
            rename (News _ _ _ _) => N10
            refine LCt.ListComp_T (cl := []) F10 ?hclos ?hcell ?hkind ?hnames ?hx ?hcmp ?hs9
            case hclos => with_unfolding_all rfl
            case hcell => decide
            case hkind => rfl
            case hnames => decide
            case hx => rfl
            case hs9 => intro _; with_unfolding_all rfl
            case hcmp =>
              iterate 7 (first | (dsimp only; walk1) | walk1)
              refine' strs_from (i := 1) ?F1 ?N1 ?l1 ?_ ?s1 ?t1 ?z1
              (case F1 => exact F10)
              (case N1 => exact N10)
              (case l1 => with_reducible_and_instances k_mem)
              (case s1 => with_unfolding_all rfl)
              (case t1 => kmk_pure)
              (case z1 => rw [hU9.length]; exact hslen)
              intro D4 h4 F11 N11 l4
              (try k_lt l4)
              clear F10 N10
              refine LCt.CompSrcT.ledger rfl F11 N11 (.head _) (by have := hU9.length; rw [sizeLine_eq, List.size_toArray, List.length_drop]; omega) ?_
              intro g9
              refine compT_strs (ss := (stopsOf (rotR R i)).drop 1) badB (strs_drop hU9 1) (.inr ⟨_, .head _, rfl, _, rfl⟩) rfl rfl (by decide) ?turn4 ?fin4
              case turn4 =>
                intro c t4 I oI C oC D5 m₂ ys sC E' hc hC hx F12 N12 off ne9
                clear F11 N11
                obtain ⟨hC0, gC, dC, tC, oC9⟩ := sC
                replace F12 : Fr (ghostOf s₁.heap [(74, 70), (228, 224)]) s₁.heap.objs.size hC0 _ := F12
                replace N12 : News (ghostOf s₁.heap [(74, 70), (228, 224)]) s₁.heap.objs.size hC0 _ := N12
                have hcl9 : c.length ≤ 1000 := by
                  have := stops_short hra c (List.mem_of_mem_drop hc)
                  rw [hrl] at this; omega
                repeat' (first | (dsimp only; walk1) | walk1)
                all_goals first
                  | assumption
                  | exact badB_dot (by assumption)
                  | exact badB_dd (by assumption) (by assumption)
                  | exact badB_no (by assumption) (by assumption)
              case fin4 =>
                intro ys hY
                unfold LCg.FinE
                intro D6 h6 tk6 F13 N13 off6
                (try simp only [LCg.Off1, and_true] at off6)
                clear F11 N11
                repeat (first | (dsimp only; walk1) | walk1)
                unfold Hold
                rename (Fr _ _ _ _) => F14
                rename (News _ _ _ _) => N14
                refine eq_strs_K (us := ys) (vs := []) N14 (.tail _ (.head _)) (.head _) hY .nil (by ktr_units) ?_
                cases hg9 : decide (((stopsOf (rotR R i)).drop 1).filter badB = []) with
                | true =>
                  repeat (first | (dsimp only; walk1) | walk1)
                  (first | k_unfold | (dsimp only; k_unfold))
                  rename (Fr _ _ _ _) => F15
                  rename (News _ _ _ _) => N15
                  exact sl_end F15 N15 (by with_reducible_and_instances k_mem) (by with_reducible_and_instances k_mem) (by with_reducible_and_instances k_mem) (by with_reducible_and_instances k_mem) (fun z hz => by have hz9 := hs1 z hz; repeat (first | exact hz9 | apply List.mem_cons_of_mem)) (fun z hz => by have hz9 := hs2 z hz; repeat (first | exact hz9 | apply List.mem_cons_of_mem)) (ends_yes hg9 hE) hT9' ht9 hoff9 (by rw [starts_yes hg9]; rfl) (fun z z1 z2 z3 => by simp only [if_neg z1, if_neg z2, if_neg z3])
                | false =>
                  repeat (first | (dsimp only; walk1) | walk1)
                  (first | k_unfold | (dsimp only; k_unfold))
                  rename (Fr _ _ _ _) => F15
                  rename (News _ _ _ _) => N15
                  exact sl_end F15 N15 (by with_reducible_and_instances k_mem) (by with_reducible_and_instances k_mem) (by with_reducible_and_instances k_mem) (by with_reducible_and_instances k_mem) (fun z hz => by have hz9 := hs1 z hz; repeat (first | exact hz9 | apply List.mem_cons_of_mem)) (fun z hz => by have hz9 := hs2 z hz; repeat (first | exact hz9 | apply List.mem_cons_of_mem)) (ends_no hg9 hE) hT9' ht9 hoff9 (by rw [starts_no hg9]; rfl) (fun z z1 z2 z3 => by simp only [if_neg z1, if_neg z2, if_neg z3])
          -- </turn3>
      -- <turn2>
      case turn2 =>
        intro c t its acc n tups sT own tl hP hal hoff ht hs1 hs2 htl F2 N2
        clear F3 N3
        have hzl : its.length ≤ 1000 := by
          have h1 := hP.1
          have h2 := hU.length
          rw [List.length_append] at hal
          omega
        obtain ⟨hT0, gT, dT, tT, oT⟩ := sT
        replace F2 : Fr (ghostOf s₁.heap [(74, 70), (228, 224)]) s₁.heap.objs.size hT0 _ := F2
        replace N2 : News (ghostOf s₁.heap [(74, 70), (228, 224)]) s₁.heap.objs.size hT0 _ := N2
        (show wpAny _ _ _ _ _ _); (try k_fold)
        iterate 9 (first | (dsimp only; walk1) | walk1)
        · iterate 6 (first | (dsimp only; walk1) | walk1)
          (k_here; (show wpAny _ _ (call (Value.ref 61) [Value.ref _]) _ _ _); (try k_fold); k_dflt (refine' pop_use ?k1 ?k2 ?k3 ?k4 ?k5 ?kK ?kd ?ku ?kU ?km ?kn ?kz ?_; (case k1 => k_asm); (case k2 => k_asm); (case k3 => k_asm); (case k4 => k_asm); (case k5 => k_asm); (case kK => first | exact rfl | assumption); (case kd => ktr_room); (case ku => ktr_units); (case km => with_reducible_and_instances k_mem); (case kn => with_reducible_and_instances k_mem); (case kU => with_reducible_and_instances k_updF); (case kz => omega)); intro r9 n9 h9 tk9 F9 N9; (try dsimp only at N9); (try dsimp only); (try k_fold))
          repeat (first | (dsimp only; walk1) | walk1)
          (first | k_unfold | (dsimp only; k_unfold))
          rename (Fr _ _ _ _) => F9
          rename (News _ _ _ _) => N9
          exact pl_end8a F9 N9 hs1 hs2 (pile_popG hP (eq_of_beq (by assumption))) ht if_off1 hoff
        · repeat (first | (dsimp only; walk1) | walk1)
          k_unfold
          rename (Fr _ _ _ _) => F9
          rename (News _ _ _ _) => N9
          rename (∀ p : Addr × Obj, p ∈ _ → p.1 ≠ _) => l9
          exact pl_end8b F9 N9 l9 hs1 hs2 (pile_push1 hP (ne_of_beq_false (by assumption))) ht if_off1 hoff
      -- </turn2>
    -- <turn1>
    case turn1 =>
      intro i k t us acc n sT own hk hacc hU hoff F2 N2
      clear hI1
      obtain ⟨hT0, gT, dT, tT, oT⟩ := sT
      replace F2 : Fr (ghostOf s₁.heap [(74, 70), (228, 224)]) s₁.heap.objs.size hT0 _ := F2
      replace N2 : News (ghostOf s₁.heap [(74, 70), (228, 224)]) s₁.heap.objs.size hT0 _ := N2
      clear F1 N1
      have hul : us.length ≤ 1000 := by
        have h1 := hU.length
        rw [hacc, ring_len] at h1
        have h3 := List.length_take_le 5 script
        simp only [List.length_take, List.length_append, List.length_cons, List.length_nil] at h1
        omega
      (show wpAny _ _ _ _ _ _); (try k_fold)
      iterate 19 (first | (dsimp only; walk1) | walk1)
      · repeat (first | (dsimp only; walk1) | walk1)
        k_unfold
        rename (Fr _ _ _ _) => F9
        rename (News _ _ _ _) => N9
        exact li_end7 F9 N9 (ring_dots hU (by assumption)) if_off1 hoff
      · repeat (first | (dsimp only; walk1) | walk1)
        k_unfold
        rename (Fr _ _ _ _) => F9
        rename (News _ _ _ _) => N9
        exact li_end7 F9 N9 (ring_name hU (by assumption)) if_off1 hoff
    -- </turn1>
    )


end Mine

set_option maxHeartbeats 4000000 in
theorem PySem.Challenge.cw_qw0042_01_holds : PySem.Challenge.rw_qw0042_01.Holds := by
  exact Mine.law_holds
