import PyProof.Rows.All
import Wide.All
import OpenK.AllK
import Wide.FinOn
import Lean
import PySem.Challenge.RW_fq5040_01
set_option Elab.async false
-- Head
section
open PySem PySem.W PyProof.Rows
namespace Mine
set_option maxRecDepth 100000 in
set_option maxHeartbeats 8000000 in
open_top hd for PySem.Challenge.rw_fq5040_01
end Mine
end
-- B0
section
open PySem PySem.W PySem.Calls PyProof.Rows
namespace Mine
abbrev PR : Program := PySem.Challenge.rw_fq5040_01.row.prog
/-- everything that stood still stands -/
def Keep (h h' : Heap) : Prop := ∀ b o, h.get? b = some o → h'.get? b = some o
theorem Keep.refl (h : Heap) : Keep h h := fun _ _ e => e
theorem Keep.trans {a b c : Heap} (x : Keep a b) (y : Keep b c) : Keep a c := fun p o e => y p o (x p o e)

section
variable {prog : Program} {w : World} {A : Around} {s : Shared} {K : Frag} {p : Program} {loose : List Str} {mean : ExcName → Option Value} {mg mb : Str → Option Value}
    {R : Result → Shared → Prop} {name qual : Str} {params : Arguments} {body : List Stmt} {scope : Scope} {dV kV doc pm cdv ct oc : Value} {an od : Option Addr} {osl : Array (Option Value)} {f : Addr} {args : Args}
theorem code_fz {binds : List (Str × Value)}
    (X : K.In s.heap) (T : Top p loose mean mg mb s.heap)
    (ho : K.lookup f = some ⟨oc, od, .func (fnOf name qual params body scope dV kV doc pm an cdv ct), osl⟩) (hcd : codeIn K cdv qual = true) (hroom : A.depth < recursionLimit)
    (hbind : BindsTo s (fnOf name qual params body scope dV kV doc pm an cdv ct) args binds) (hloc : ∀ y ∈ binds, scope.names.lookup y.1 = some .local)
    (h : ∀ L' h₁, Fr s.heap L' h₁ (fun y => binds.reverse.lookup y) → News s.heap L' h₁ [] →
      wpAny (model prog w) (A.deeper (envOf qual scope L' f cdv)) (execs body (envOf qual scope L' f cdv))
        (fun fl s' => R (.ok (.ret (match fl with | .ret v => v | _ => .none))) s') (fun _ _ => False)
        { s with heap := h₁, toks := s.toks + binds.length })
    (hco : scope.isCoroutine = false) (hgen : scope.isGenerator = false) (hk : scope.kind = .function)
    (hcell : ∀ x ∈ scope.names, x.2 ≠ .cell) : codeAny (model prog w) A (.call (.ref f) args) R s := by
  refine codeAny_call_def (fd := fnOf name qual params body scope dV kV doc pm an cdv ct) (body := body) (binds := binds) hroom (X _ _ ho) rfl T.nolimit (codeRec_of X hcd) rfl hbind hcell hloc (fun h₁ hns hk₁ => ?_) hco hgen hk
  exact wpAny_mono (h _ h₁ ⟨hns, hk₁, Nat.le_refl _⟩ News.nil) (fun _ _ y => y) (fun _ _ y => y.elim)

theorem wp_peek1 {α : Type} {M : Model} {E : Value → Shared → Prop} {Q : α → Shared → Prop} {o : Obj} {r : Addr → α}
    (X : K.In s.heap) (q : Q (r s.heap.objs.size) { s with heap := s.heap.push o }) :
    ∀ (t : Sem α) (g : Addr → Option α), peek1 K ⟨M.prog, M.w.params⟩ t = some (o, g) → (∀ D, g D = some (r D)) → wpAny M A t Q E s := by
  intro t
  induction t with
  | rule _ k ih => intro g e hg Γ p hΓ; exact ih () g e hg Γ p hΓ
  | point _ k ih => intro g e hg Γ p hΓ; exact ih () g e hg Γ p hΓ
  | ask k ih => intro g e hg Γ p hΓ; exact ih _ g e hg Γ p hΓ
  | load a _ k ih =>
    intro g e hg Γ p hΓ
    simp only [peek1] at e
    split at e
    · rename_i ob ho; exact ⟨ob, X _ _ ho, ih ob g e hg Γ p hΓ⟩
    · cases e
  | alloc ob k _ =>
    intro g e hg
    have e : some (ob, fun D => peek K ⟨M.prog, M.w.params⟩ (k D)) = some (o, g) := e
    obtain ⟨e1, e2⟩ := Prod.mk.inj (Option.some.inj e)
    subst e1
    subst e2
    have X' : K.In (s.heap.push ob) := X.keeps fun b x hb => Heap.get?_push_of_some _ hb
    show wpAny M A (alloc ob >>= k) Q E s
    exact wpAny_bind (wpAny_alloc ((Looks.of_peek (M := M) (h := s.heap.push ob) X' (hg s.heap.objs.size)).here (s := { s with heap := s.heap.push ob }) q))
  | _ => intro g e; cases e

theorem code_fzR {vs : List Value} {g₁ : Addr → Option (List (Str × Value))} {binds : Addr → List (Str × Value)}
    (X : K.In s.heap) (T : Top p loose mean mg mb s.heap)
    (ho : K.lookup f = some ⟨oc, od, .func (fnOf name qual params body scope dV kV doc pm an cdv ct), osl⟩) (hcd : codeIn K cdv qual = true) (hroom : A.depth < recursionLimit)
    (hv : args.pos.drop (params.posonlyargs.length + params.args.length) = vs)
    (hp : peek1 K ⟨prog, w.params⟩ (bindArgs (fnOf name qual params body scope dV kV doc pm an cdv ct) args) = some (({ cls := .type "tuple", data := .seq vs.toArray } : Obj), g₁))
    (hg : ∀ D, g₁ D = some (binds D)) (hloc : ∀ D, ∀ y ∈ binds D, scope.names.lookup y.1 = some .local)
    (h : ∀ D L' h₁ tk, Fr s.heap L' h₁ (fun y => (binds D).reverse.lookup y) → News s.heap L' h₁ [(D, ({ cls := .type "tuple", data := .seq vs.toArray } : Obj))] →
      wpAny (model prog w) (A.deeper (envOf qual scope L' f cdv)) (execs body (envOf qual scope L' f cdv))
        (fun fl s' => R (.ok (.ret (match fl with | .ret v => v | _ => .none))) s') (fun _ _ => False)
        { s with heap := h₁, toks := tk })
    (hco : scope.isCoroutine = false) (hgen : scope.isGenerator = false) (hk : scope.kind = .function)
    (hcell : ∀ x ∈ scope.names, x.2 ≠ .cell) : codeAny (model prog w) A (.call (.ref f) args) R s := by
  have _ := hv
  refine codeAny_call_function (fd := fnOf name qual params body scope dV kV doc pm an cdv ct) (body := body) hroom (X _ _ ho) rfl hco hgen rfl (codeRec_of X hcd) ?_
  refine wp_peek1 (r := binds) X ?_ _ g₁ hp hg
  have up : ∀ b o, s.heap.get? b = some o → (s.heap.push ({ cls := .type "tuple", data := .seq vs.toArray } : Obj)).get? b = some o := fun b o e => Heap.get?_push_of_some _ e
  refine wpAny_newFunctionEnv hcell (hloc _) (fun h₁ hns hsb => ⟨(T.nolimit.keeps up).fresh _ hsb, codeAny_func ?_⟩) hk
  have hk₁ : ∀ b o, (s.heap.push ({ cls := .type "tuple", data := .seq vs.toArray } : Obj)).get? b = some o → h₁.get? b = some o := fun b o e => hsb.extBut b o (Nat.ne_of_lt (Heap.lt_size e)) (Heap.get?_push_of_some _ e)
  have hD : (s.heap.push ({ cls := .type "tuple", data := .seq vs.toArray } : Obj)).get? s.heap.objs.size = some ({ cls := .type "tuple", data := .seq vs.toArray } : Obj) := Heap.get?_push_size _ rfl
  refine wpAny_mono (h s.heap.objs.size _ h₁ _ ⟨hns, fun b o e => hk₁ b o (up b o e), ?_⟩ ?_) (fun _ _ y => y) (fun _ _ y => y.elim)
  · rw [Heap.size_push]; exact Nat.le_succ _
  · intro q hq
    rw [List.mem_singleton.mp hq]
    refine ⟨hk₁ _ _ hD, ?_, ?_⟩
    · dsimp only
      rw [Heap.size_push]; exact Nat.ne_of_lt (Nat.lt_succ_self _)
    · cases e : s.heap.get? s.heap.objs.size with
      | none => rfl
      | some o' => exact absurd (Heap.lt_size e) (Nat.lt_irrefl _)
end
abbrev levEs (w : World) (t1 t2 t3 t4 : Tok) : List DictEntry := [⟨PyData.keyHash w.params (Str.ofString "qval"), .str (Str.ofString "qval") t1, .int 1 t2⟩, ⟨PyData.keyHash w.params (Str.ofString "test_func"), .str (Str.ofString "test_func") t3, .ref 100⟩, ⟨PyData.keyHash w.params (Str.ofString "external"), .str (Str.ofString "external") t4, .bool true⟩]
def IsObj (w : World) (C : Addr) (h : Heap) (x : Addr) : Prop := ∃ dx t1 t2 t3 t4, InstAt h x (instObj C dx) C (some (dictOf (levEs w t1 t2 t3 t4) 3))
theorem inst_keep {h h' : Heap} {x C dx : Addr} {od : Obj} (k : ∀ b o, h.get? b = some o → h'.get? b = some o) (I : InstAt h x (instObj C dx) C (some od)) : InstAt h' x (instObj C dx) C (some od) := ⟨k _ _ I.at_, I.cls, I.no, k _ _ I.dict⟩
theorem inst_fz {h₀ h : Heap} {L x C dx : Addr} {od : Obj} {m : Str → Option Value} (F : Fr h₀ L h m) (I : InstAt h₀ x (instObj C dx) C (some od)) : InstAt h x (instObj C dx) C (some od) := inst_keep F.keep I
theorem IsObj.keeps {w : World} {C : Addr} {h h' : Heap} {x : Addr} (k : ∀ b o, h.get? b = some o → h'.get? b = some o) (I : IsObj w C h x) : IsObj w C h' x := let ⟨_, _, _, _, _, I⟩ := I; ⟨_, _, _, _, _, inst_keep k I⟩
end Mine
end
-- B1
section
open PySem PySem.W PySem.Calls PyProof.Rows
namespace Mine
section
variable {prog : Program} {w : World} {A : Around} {s : Shared} {K : Frag} {p : Program} {loose : List Str} {mean : ExcName → Option Value} {mg mb : Str → Option Value}
    {R : Result → Shared → Prop} {name qual : Str} {params : Arguments} {body : List Stmt} {scope : Scope} {dV kV doc pm cdv ct oc : Value} {an od : Option Addr} {osl : Array (Option Value)} {f : Addr} {args : Args}
/-- the frame with cells, made over a heap g that holds all of h₀ -/
theorem frame_cells {h₀ : Heap} {E : Value → Shared → Prop} {binds : List (Str × Value)} {own : List (Addr × Obj)}
    (st : ∀ b o, h₀.get? b = some o → s.heap.get? b = some o) (hsz : h₀.objs.size ≤ s.heap.objs.size) (hown : ∀ p ∈ own, s.heap.get? p.1 = some p.2 ∧ h₀.get? p.1 = none)
    (hlim : s.heap.NoLimit)
    (hkind : (binds.all fun y => scope.names.lookup y.1 == some .local || scope.names.lookup y.1 == some .cell) = true)
    (hnd : ((cellsFrom 0 scope.names []).map (·.1)).Nodup)
    (h : ∀ L' h₁ tk cells, Fr h₀ L' h₁ (bindL (envOfC qual scope L' f cdv).kindOf binds fun _ => none) → News h₀ L' h₁ (cells ++ own) →
      CellsAre (bindC (envOfC qual scope L' f cdv).kindOf binds fun _ => none) (cellsFrom (L' + 1) scope.names []) cells →
      wpAny (model prog w) (A.deeper (envOfC qual scope L' f cdv)) (execs body (envOfC qual scope L' f cdv))
        (fun fl s' => R (.ok (.ret (match fl with | .ret v => v | _ => .none))) s') (fun _ _ => False)
        { s with heap := h₁, toks := tk })
    (hk : scope.kind = .function) :
    wpAny (model prog w) A.in1 (newFunctionEnv scope mainGlobals [] binds (qual ++ ".<locals>.") (some f) cdv none builtinsNs) (fun env' s₂ => s₂.heap.NoLimit ∧ codeAny (model prog w) A (.func body env') R s₂) E s := by
  refine wpAny_newFunctionEnv_cells hk (kindsX hkind _) fun env' he s' x => ?_
  subst he
  refine ⟨hlim.keeps x.toInCall.keep, codeAny_func ?_⟩
  obtain ⟨h₁, tk, rfl, _⟩ := x.done
  have hk₁ := x.toInCall.keep
  obtain ⟨cells, NC, Y⟩ := Cl.news (h₀ := s.heap) (Nat.le_refl _) fun n c hm => ⟨x.cell n c (lookup_of_mem_nodup (cellsFrom_names scope.names 0 (s.heap.objs.size + 1) [] [] rfl ▸ hnd) hm), x.above n c hm⟩
  refine wpAny_mono (h s.heap.objs.size h₁ tk cells ⟨x.toInCall.ns, fun b o e => hk₁ b o (st b o e), hsz⟩ (fun p hp => ?_) Y) (fun _ _ y => y) fun _ _ y => y.elim
  rcases List.mem_append.mp hp with hp | hp
  · refine ⟨(NC p hp).1, (NC p hp).2.1, ?_⟩
    cases q : h₀.get? p.1 with
    | none => rfl
    | some o => have := st _ _ q; rw [(NC p hp).2.2] at this; cases this
  · exact ⟨hk₁ _ _ (hown p hp).1, Nat.ne_of_lt (Heap.lt_size (hown p hp).1), (hown p hp).2⟩

theorem code_fzC {binds : List (Str × Value)}
    (X : K.In s.heap) (T : Top p loose mean mg mb s.heap)
    (ho : K.lookup f = some ⟨oc, od, .func (fnOf name qual params body scope dV kV doc pm an cdv ct), osl⟩) (hcd : codeIn K cdv qual = true) (hroom : A.depth < recursionLimit)
    (hbind : BindsTo s (fnOf name qual params body scope dV kV doc pm an cdv ct) args binds)
    (hkind : (binds.all fun y => scope.names.lookup y.1 == some .local || scope.names.lookup y.1 == some .cell) = true)
    (hnd : ((cellsFrom 0 scope.names []).map (·.1)).Nodup)
    (h : ∀ L' h₁ tk cells, Fr s.heap L' h₁ (bindL (envOfC qual scope L' f cdv).kindOf binds fun _ => none) → News s.heap L' h₁ cells →
      CellsAre (bindC (envOfC qual scope L' f cdv).kindOf binds fun _ => none) (cellsFrom (L' + 1) scope.names []) cells →
      wpAny (model prog w) (A.deeper (envOfC qual scope L' f cdv)) (execs body (envOfC qual scope L' f cdv))
        (fun fl s' => R (.ok (.ret (match fl with | .ret v => v | _ => .none))) s') (fun _ _ => False)
        { s with heap := h₁, toks := tk })
    (hco : scope.isCoroutine = false) (hgen : scope.isGenerator = false) (hk : scope.kind = .function) : codeAny (model prog w) A (.call (.ref f) args) R s := by
  refine codeAny_call_function (fd := fnOf name qual params body scope dV kV doc pm an cdv ct) (body := body) hroom (X _ _ ho) rfl hco hgen rfl (codeRec_of X hcd) (hbind _ _ _ _ ?_)
  exact frame_cells (own := []) (fun _ _ e => e) (Nat.le_refl _) (fun _ hp => nomatch hp) T.nolimit hkind hnd (fun L' h₁ tk cells F N Y => h L' h₁ tk cells F (by simpa using N) Y) hk

theorem code_fzRC {vs : List Value} {g₁ : Addr → Option (List (Str × Value))} {binds : Addr → List (Str × Value)}
    (X : K.In s.heap) (T : Top p loose mean mg mb s.heap)
    (ho : K.lookup f = some ⟨oc, od, .func (fnOf name qual params body scope dV kV doc pm an cdv ct), osl⟩) (hcd : codeIn K cdv qual = true) (hroom : A.depth < recursionLimit)
    (hv : args.pos.drop (params.posonlyargs.length + params.args.length) = vs)
    (hp : peek1 K ⟨prog, w.params⟩ (bindArgs (fnOf name qual params body scope dV kV doc pm an cdv ct) args) = some (({ cls := .type "tuple", data := .seq vs.toArray } : Obj), g₁))
    (hg : ∀ D, g₁ D = some (binds D))
    (hkind : ∀ D, ((binds D).all fun y => scope.names.lookup y.1 == some .local || scope.names.lookup y.1 == some .cell) = true)
    (hnd : ((cellsFrom 0 scope.names []).map (·.1)).Nodup)
    (h : ∀ D L' h₁ tk cells, Fr s.heap L' h₁ (bindL (envOfC qual scope L' f cdv).kindOf (binds D) fun _ => none) → News s.heap L' h₁ (cells ++ [(D, ({ cls := .type "tuple", data := .seq vs.toArray } : Obj))]) →
      CellsAre (bindC (envOfC qual scope L' f cdv).kindOf (binds D) fun _ => none) (cellsFrom (L' + 1) scope.names []) cells →
      wpAny (model prog w) (A.deeper (envOfC qual scope L' f cdv)) (execs body (envOfC qual scope L' f cdv))
        (fun fl s' => R (.ok (.ret (match fl with | .ret v => v | _ => .none))) s') (fun _ _ => False)
        { s with heap := h₁, toks := tk })
    (hco : scope.isCoroutine = false) (hgen : scope.isGenerator = false) (hk : scope.kind = .function) : codeAny (model prog w) A (.call (.ref f) args) R s := by
  have _ := hv
  refine codeAny_call_function (fd := fnOf name qual params body scope dV kV doc pm an cdv ct) (body := body) hroom (X _ _ ho) rfl hco hgen rfl (codeRec_of X hcd) ?_
  refine wp_peek1 (r := binds) X ?_ _ g₁ hp hg
  have up : ∀ b o, s.heap.get? b = some o → (s.heap.push ({ cls := .type "tuple", data := .seq vs.toArray } : Obj)).get? b = some o := fun b o e => Heap.get?_push_of_some _ e
  refine frame_cells (s := { s with heap := s.heap.push _ }) (h₀ := s.heap) (own := [(s.heap.objs.size, _)]) up (by rw [Heap.size_push]; exact Nat.le_succ _) (fun q hq => ?_) (T.nolimit.keeps up) (hkind _) hnd (fun L' h₁ tk cells F N Y => h _ L' h₁ tk cells F N Y) hk
  rw [List.mem_singleton.mp hq]
  refine ⟨Heap.get?_push_size _ rfl, ?_⟩
  cases e : s.heap.get? s.heap.objs.size with
  | none => rfl
  | some o' => exact absurd (Heap.lt_size e) (Nat.lt_irrefl _)
end
end Mine
namespace Mine
theorem methodCall_star {M : Model} {A : Around} {E : Value → Shared → Prop} {s : Shared} {env : Env} {o : Expr} {name : Str} {apos pos : Pos} {args : List Expr} {Q : Value → Shared → Prop}
    (h : wpAny M A (eval o env) (fun ov s₁ => wpAny M A (getAttr ov name true) (fun f s₂ => wpAny M A (callWith pos f [] (backTo pos (starEach args env)) []) Q E s₂) E s₁) E s)
    (he : eval (.Call (.Attribute o name apos) args [] pos) env = (do
      let ov ← eval o env
      standAt apos.atName
      let f ← holding [ov] (do pure (← getAttr ov name true, ([] : List Value)))
      callWith pos f.1 f.2 (backTo pos (starEach args env)) (backToKw pos (keywordEach [] env))) := by rfl) :
    wpAny M A (eval (.Call (.Attribute o name apos) args [] pos) env) Q E s := by
  rw [he]
  refine wpAny_bind (wpAny_mono h (fun ov s₁ h₁ => wpAny_bind (wpAny_standAt (wpAny_bind (wpAny_holding (wpAny_bind (wpAny_mono h₁ (fun f s₂ h₂ => wpAny_pure ?_) fun _ _ x => x)))))) fun _ _ x => x)
  exact h₂
end Mine
namespace Mine
section
variable {prog : Program} {w : World} {A : Around} {E : Value → Shared → Prop} {s : Shared} {K : Frag} {x C L p : Addr} {ox : Obj} {name : Str} {expr : Bool} {h₀ : Heap} {m : Str → Option Value} {es : List DictEntry} {n : Nat} {Q : Value → Shared → Prop}
theorem get_sm {f : Value} {rest : List Value} (F : Fr h₀ L s.heap m) (X₀ : K.In h₀) (I : InstAt s.heap x ox C (some (dictOf es n))) (hg : plainGet K C name = true) (hh : hasDictIn K C = true) (ha : findIn K (.ref C) name = some (some (.ref p)))
    (hgf : specialIn K (.ref p) "__get__" = some (some (.builtin "staticmethod.__get__"))) (ht : takesIn K (.ref p) = some false) (hc : copiedNames.contains name = false) (hl : getL name es = some none)
    (hp : recIn K p "staticmethod" = some (f :: rest)) (hv : handedIn f = true) (h : Q f { s with toks := s.toks + 1 }) : wpAny (model prog w) A (getAttr (.ref x) name expr) Q E s :=
  get_bind (X₀.keeps F.keep) I (plainGet_of hg).1 (findObj_fn hh ha hgf ht hc (by show lookIn name (dictOf es n) = _; rw [lookIn_dict, hl])) (plainGet_of hg).2
    (wpAny_call (sm_get (s := { s with toks := s.toks + 1 }) (X₀.keeps F.keep) hp (handed_on hv h)))
end
end Mine
namespace Mine
theorem news_more {h₀ h h' : Heap} {L D : Addr} {m : Str → Option Value} {news : List (Addr × Obj)} {o : Obj} (F : Fr h₀ L h m) (N : News h₀ L h' news) (hn : h.objs.size ≤ D) (hg : h'.get? D = some o) : News h₀ L h' ((D, o) :: news) := by
  intro p hp
  rcases List.mem_cons.mp hp with rfl | hp
  · refine ⟨hg, fun q => ?_, ?_⟩
    · obtain ⟨oL, _, _, hL, _⟩ := F.ns
      dsimp only at q
      subst q
      exact absurd (Heap.lt_size hL) (Nat.not_lt.mpr hn)
    · cases e : h₀.get? D with
      | none => rfl
      | some o' => exact absurd (Heap.lt_size (F.keep _ _ e)) (Nat.not_lt.mpr hn)
  · exact N p hp
end Mine
end
-- S1
section
open PySem PySem.W PySem.Calls PyProof.Rows
set_option maxRecDepth 100000
namespace Mine
/-- what a set holds once the first i of the texts have been added -/
def seenS (val : Nat → Str) : Nat → Str → Bool
  | 0 => fun _ => false
  | i + 1 => fun k => seenS val i k || decide (k = val i)
def seenN (val : Nat → Str) : Nat → Nat
  | 0 => 0
  | i + 1 => if seenS val i (val i) then seenN val i else seenN val i + 1
theorem seenN_le (val : Nat → Str) : ∀ i, seenN val i ≤ i
  | 0 => Nat.le_refl _
  | i + 1 => by
    have := seenN_le val i
    unfold seenN
    split <;> omega

section
variable {prog : Program} {w : World} {A : Around} {R : Result → Shared → Prop} {I : Addr} {fp wr : List Addr} {G : Array GenState → Array GenState → Prop} {n : Nat} {P : Nat → Value → Prop} {St : Nat → Shared → Prop}

theorem strs_update_loop (W : WalksS prog w A.in1 I fp wr G n P St) (S : Addr) (hSf : S ∉ fp)
    (val : Nat → Str) (hval : ∀ i v, P i v → ∃ t, v = .str (val i) t) (hb : n + 1 < scanBound) :
    ∀ (k i : Nat) (s : Shared), n - i = k → i ≤ n → St i s →
      s.heap.SetOf (strKind prog w) S (seenS val i) (seenN val i) →
      (∀ s', Moved (S :: wr) G s s' → s'.heap.SetOf (strKind prog w) S (seenS val n) (seenN val n) → R (.ok (.ret .none)) s') →
      codeAny (model prog w) A (.builtin "set.update.loop" ⟨[.ref S, .ref I], []⟩) R s := by
  have hSw : S ∉ wr := fun h => hSf (W.sub _ h)
  have hsub : ∀ b ∈ wr, b ∈ S :: wr := fun b hb => List.mem_cons_of_mem _ hb
  intro k
  induction k with
  | zero =>
    intro i s hk hi hst hS hR
    obtain rfl : i = n := by omega
    refine codeAny_builtin PyProof.Rows.F.entry_set_update_loop ?_
    rw [Around.under_plainId PyProof.Rows.F.plain_set_update_loop _]
    show wpAny _ A.in1 (pyNext (.ref I) >>= _) _ _ s
    refine wpAny_bind (W.done s _ _ hst fun s' hm => ?_)
    show wpAny _ A.in1 (ret Value.none) _ _ s'
    exact wpAny_pure (hR s' (hm.mono hsub) (by
      obtain ⟨o, es, ep, t, ho, rest⟩ := hS
      exact ⟨o, es, ep, t, hm.heap S _ hSw ho, rest⟩))
  | succ k ih =>
    intro i s hk hi hst hS hR
    have hlt : i < n := by omega
    refine codeAny_builtin PyProof.Rows.F.entry_set_update_loop ?_
    rw [Around.under_plainId PyProof.Rows.F.plain_set_update_loop _]
    show wpAny _ A.in1 (pyNext (.ref I) >>= _) _ _ s
    refine wpAny_bind (W.item i s _ _ hlt hst fun v s' hP hst' hm => ?_)
    obtain ⟨t, rfl⟩ := hval i v hP
    have hS' : s'.heap.SetOf (strKind prog w) S (seenS val i) (seenN val i) := by
      obtain ⟨o, es, ep, tb, ho, rest⟩ := hS
      exact ⟨o, es, ep, tb, hm.heap S _ hSw ho, rest⟩
    show wpAny _ A.in1 (holding [Value.str (val i) t] (setAdd S (.str (val i) t)) >>= _) _ _ s'
    refine wpAny_bind (wpAny_holding ?_)
    unfold setAdd
    refine wpAny_holding ?_
    refine wpAny_bind ((strKind prog w).pyHash (k := val i) (strKind_is _ _ _ _) ?_)
    have hroom : seenN val i + 1 < scanBound := by have := seenN_le val i; omega
    refine wpAny_setAddHashed_of (knd := strKind prog w) (s := { s' with toks := s'.toks + 1 }) (strKind_is _ _ _ _) rfl hS' hroom fun h' hsb hS2 => ?_
    have hSi : h'.SetOf (strKind prog w) S (seenS val (i + 1)) (seenN val (i + 1)) := hS2
    refine wpAny_pure ⟨plainId_quiet PyProof.Rows.F.plain_set_update_loop _, ih (i + 1) _ (by omega) hlt (W.frame _ s' _ _ hst' (Nat.le_succ _) fun b hb o e => ?_) hSi fun s'' hm'' hS'' => ?_⟩
    · rw [hsb.2 b (fun h : b = S => hSf (by rw [← h]; exact hb))]; exact e
    · refine hR s'' (Moved.trans W.gtrans ((hm.mono hsub).then_heap (Nat.le_succ _) fun b o hb e => ?_) hm'') hS''
      rw [hsb.2 b (fun h : b = S => hb (by rw [h]; exact List.mem_cons_self))]; exact e
end

section
variable {prog : Program} {w : World} {A : Around} {E : Value → Shared → Prop} {s : Shared}
set_option maxHeartbeats 3200000 in
theorem call_set_tup {l : Addr} {items : Array Value} {val : Nat → Str} {Q : Value → Shared → Prop}
    (hh : A.handled = none) (hl : s.heap.IsTuple l items) (hval : ∀ (i : Nat) (v : Value), items[i]? = some v → ∃ t, v = .str (val i) t) (hb : items.size + 1 < scanBound)
    (h : ∀ (h' : Heap) (tk : Nat), h'.SetOf (strKind prog w) s.heap.objs.size (seenS val items.size) (seenN val items.size) →
      (∀ b o, b < s.heap.objs.size → s.heap.get? b = some o → h'.get? b = some o) → Q (.ref s.heap.objs.size) { s with heap := h', toks := tk }) :
    wpAny (model prog w) A (call (.type "set") [.ref l]) Q E s := by
  obtain ⟨c, tl, hmro⟩ := PySem.F.called_set.mro
  have hmade := PySem.F.called_set.made
  have hsub := PySem.F.called_set.sub
  refine wpAny_call (codeAny_of_tree ?_)
  show wpAny _ _ (callAny (.type "set") _) _ _ _
  refine wpAny_pure ⟨Code.quiet_builtin _ (by decide +kernel), codeAny_builtin PySem.F.entry_type_call ?_⟩
  rw [Around.under_plain (weight_type_call_type "set" [.ref l] []) rfl]
  have h1 := PySem.F.called_set.notType
  have h2 := PySem.F.called_set.canCreate
  have hct := PySem.F.typeCall_set_1 (.ref l)
  repeat (any_goals (first | assumption | wp_step))
  refine codeAny_mono (code_set_new_1 (.ref l) (E := E) (Q₁ := fun obj s₁ => ∃ led : Bool, obj = .ref s.heap.objs.size ∧ s₁ = { s with heap := s.heap.push { cls := .type "set", dict := none, data := .set #[] 0 (.fresh 0 0 led) } }) fun led => ⟨led, rfl, rfl⟩) fun r s₁ hr => ?_
  cases r with
  | error e => exact hr
  | ok fl =>
    cases fl with
    | ret obj =>
      obtain ⟨led, rfl, rfl⟩ := hr
      have hS : (s.heap.push { cls := .type "set", dict := none, data := .set #[] 0 (.fresh 0 0 led) }).get? s.heap.objs.size = some { cls := .type "set", dict := none, data := .set #[] 0 (.fresh 0 0 led) } := Heap.get?_push_size _ rfl
      have hT : Shared.TypeIs { s with heap := s.heap.push { cls := .type "set", dict := none, data := .set #[] 0 (.fresh 0 0 led) } } (.ref s.heap.objs.size) "set" := ⟨_, hS, rfl⟩
      have hli := PySem.F.called_set.init.lookup
      have hbi := PySem.F.called_set.init.bind (.ref s.heap.objs.size)
      repeat (any_goals (first | assumption | wp_step))
      refine codeAny_mono (codeAny_call_builtin (R := wants (fun r s₂ => r = .none ∧ ∃ h' tk, s₂ = { s with heap := h', toks := tk } ∧
          h'.SetOf (strKind prog w) s.heap.objs.size (seenS val items.size) (seenN val items.size) ∧
          (∀ b o, b < s.heap.objs.size → s.heap.get? b = some o → h'.get? b = some o)) E) PySem.F.called_set.init.plain PySem.F.entry_set_init (check_set_init_1 hT ?_)) fun r₂ s₂ hr₂ => ?_
      · obtain ⟨ol, hol, hcl, nl, hdl⟩ := hl
        obtain ⟨ocls, odict, odata, oslots⟩ := ol
        simp only at hcl hdl
        subst hcl; subst hdl
        have hol' : (s.heap.push { cls := .type "set", dict := none, data := .set #[] 0 (.fresh 0 0 led) }).get? l = some { cls := .type "tuple", dict := odict, data := .seq items nl, slots := oslots } := Heap.get?_push_of_some _ hol
        have hsls := PySem.F.sub_tuple_set
        have hslf := PySem.F.sub_tuple_frozenset
        have hne : (Value.type "tuple" == Value.type "dict") = false := by decide
        have hl1 : (s.heap.push { cls := .type "set", dict := none, data := .set #[] 0 (.fresh 0 0 led) }).IsTuple l items := ⟨_, hol', rfl, nl, rfl⟩
        unfold Builtin.«set.__init__» noKeywords Builtin.Frozenset.updateFrom
        generalize hPI : pyIter = PI
        wp_walk
        subst hPI
        refine wpAny_pyIter_tuple hl1 ?_
        refine wpAny_bind (wpAny_runValue ?_)
        have hlS : l < s.heap.objs.size := Heap.lt_size hol
        have hh3 : A.in1.in1.in1.handled = none := by simp [hh]
        have hneI : l ≠ (s.heap.push { cls := .type "set", dict := none, data := .set #[] 0 (.fresh 0 0 led) }).objs.size := by
          rw [Heap.size_push]; exact Nat.ne_of_lt (Nat.lt_succ_of_lt hlS)
        have hSf : s.heap.objs.size ∉ [(s.heap.push { cls := .type "set", dict := none, data := .set #[] 0 (.fresh 0 0 led) }).objs.size, l] := by
          rw [Heap.size_push]; simp only [List.mem_cons, List.not_mem_nil, or_false, not_or]
          exact ⟨Nat.ne_of_lt (Nat.lt_succ_self _), Nat.ne_of_gt hlS⟩
        refine strs_update_loop ((Walks.tuple hh3 _ l hneI items).toS) s.heap.objs.size
          hSf val hval hb (items.size - 0) 0 _ (by omega) (Nat.zero_le _)
          ⟨⟨_, Heap.get?_push_size _ rfl, rfl, rfl⟩, (hl1.push _)⟩ ?hS0 ?hR
        case hS0 =>
          have hget : ((s.heap.push { cls := .type "set", dict := none, data := .set #[] 0 (.fresh 0 0 led) }).push { cls := .type "tuple_iterator", data := .fields #[.ref l, .int 0 0] }).get? s.heap.objs.size
              = some { cls := .type "set", dict := none, data := .set #[] 0 (.fresh 0 0 led) } := Heap.get?_push_of_some _ hS
          exact (PyProof.Rows.setObjOf_fresh (knd := strKind prog w) led).setOf hget (by unfold scanBound; omega)
        case hR =>
          intro s' hm hS'
          obtain ⟨h', g', d', tk', os'⟩ := s'
          have eg : g' = s.gens := hm.gens
          have ed : d' = s.drawn := hm.drawn
          have eo : os' = s.os := hm.os
          subst eg; subst ed; subst eo
          show wpAny _ _ _ _ _ _
          refine wpAny_pure ?_
          show wpAny _ _ (ret Value.none) _ _ _
          refine wpAny_pure ⟨rfl, h', tk', rfl, hS', fun b o hb e => ?_⟩
          have hb1 : b ≠ s.heap.objs.size := Nat.ne_of_lt hb
          have hb2 : b ≠ (s.heap.push { cls := .type "set", dict := none, data := .set #[] 0 (.fresh 0 0 led) }).objs.size := by
            rw [Heap.size_push]; exact Nat.ne_of_lt (Nat.lt_succ_of_lt hb)
          exact hm.heap b o (by simp only [List.mem_cons, List.not_mem_nil, or_false, not_or]; exact ⟨hb1, hb2⟩) (Heap.get?_push_of_some _ (Heap.get?_push_of_some _ e))
      · cases r₂ with
        | error e => exact hr₂
        | ok fl₂ =>
          cases fl₂ with
          | ret r =>
            obtain ⟨rfl, h', tk, rfl, hS', hk'⟩ := hr₂
            repeat (any_goals (first | assumption | wp_step))
            exact h _ _ hS' hk'
          | _ => exact hr₂.elim
    | _ => exact hr.elim
end
end Mine
end
-- S2
section
open PySem PySem.W PySem.Calls PyProof.Rows
set_option maxRecDepth 100000
namespace Mine
section
variable {prog : Program} {w : World} {A : Around} {E : Value → Shared → Prop} {s : Shared} {h₀ : Heap} {L : Addr} {m : Str → Option Value} {news : List (Addr × Obj)}
theorem set_two_N {l : Addr} {x y : Str} {t u : Tok} {Q : Value → Shared → Prop} (F : Fr h₀ L s.heap m) (N : News h₀ L s.heap news)
    (hh : A.handled = none) (hl : (l, ({ cls := .type "tuple", data := .seq [Value.str x t, Value.str y u].toArray } : Obj)) ∈ news)
    (h : ∀ D h' (tk : Nat) o, Fr h₀ L h' m → News h₀ L h' ((D, o) :: news) →
      o.SetObjOf (strKind prog w) (seenS (fun i => if i = 0 then x else y) 2) (if x = y then 1 else 2) → Q (.ref D) { s with heap := h', toks := tk }) :
    wpAny (model prog w) A (call (.type "set") [.ref l]) Q E s := by
  refine call_set_tup (val := fun i => if i = 0 then x else y) hh (News.isTup N hl) (fun i v hv => ?_) (by show 2 + 1 < scanBound; decide) fun h' tk hS hk => ?_
  · match i, hv with
    | 0, hv => exact ⟨t, by simpa using hv.symm⟩
    | 1, hv => exact ⟨u, by simpa using hv.symm⟩
    | i + 2, hv => simp at hv
  obtain ⟨o, ho, hso⟩ := hS.objOf
  obtain ⟨oL, _, _, hL, _⟩ := F.ns
  have hLlt : L < s.heap.objs.size := Heap.lt_size hL
  have e2 : seenN (fun i => if i = 0 then x else y) [Value.str x t, Value.str y u].toArray.size = if x = y then 1 else 2 := by
    show seenN (fun i => if i = 0 then x else y) 2 = _
    simp only [seenN, seenS]
    by_cases e : x = y
    · subst e; simp
    · have e' : ¬ y = x := fun q => e q.symm
      simp [e, e']
  rw [e2] at hso
  refine h _ h' tk o ⟨F.ns.at' fun o' e => hk L o' hLlt e, fun b o' e => hk b o' (Heap.lt_size (F.keep b o' e)) (F.keep b o' e), F.above⟩ (fun p hp => ?_) hso
  rcases List.mem_cons.mp hp with rfl | hp
  · refine ⟨ho, Nat.ne_of_gt hLlt, ?_⟩
    cases hq : h₀.get? s.heap.objs.size with
    | none => rfl
    | some o' => exact absurd (Heap.lt_size (F.keep _ _ hq)) (Nat.lt_irrefl _)
  · exact ⟨hk _ _ (Heap.lt_size (N p hp).1) (N p hp).1, (N p hp).2.1, (N p hp).2.2⟩
end
end Mine
end
-- M1
section
open PySem PySem.W PySem.Calls PyProof.Rows
set_option maxRecDepth 100000
namespace Mine
namespace FM
theorem owner_map : Manifest.owners.lookup (String.ofList ['p', 'a', 'm'].reverse) = some Manifest.sig_map := by kernel_rfl
theorem slot_map_init : Slot "map" "__init__" "object.__init__" :=
  .of (owner := "object") (n := "__init__") (by rw [typeLookup_type, builtinLookup_eq_fast]; kernel_rfl) (by decide +kernel) (by decide +kernel) (by decide +kernel)
    (by first | exact .inl (by decide +kernel) | exact .inr (by decide +kernel)) (by rw [isSubtype_type]; kernel_rfl)
theorem slot_map_iter : Slot "map" "__iter__" "map.__iter__" :=
  .of (owner := "map") (n := "__iter__") (by rw [typeLookup_type, builtinLookup_eq_fast]; kernel_rfl) (by decide +kernel) (by decide +kernel) (by decide +kernel)
    (by first | exact .inl (by decide +kernel) | exact .inr (by decide +kernel)) (by rw [isSubtype_type]; kernel_rfl)
theorem args_map_iter_1 (a : Value) : argsOk "map.__iter__" ⟨[a], []⟩ := by
  unfold argsOk; rw [signature?_of (id := "map.__iter__") (n := ['_', '_', 'r', 'e', 't', 'i', '_', '_']) (o := ['p', 'a', 'm']) (by kernel_rfl) owner_map]; kernel_rfl
theorem slot_map_next : Slot "map" "__next__" "map.__next__" :=
  .of (owner := "map") (n := "__next__") (by rw [typeLookup_type, builtinLookup_eq_fast]; kernel_rfl) (by decide +kernel) (by decide +kernel) (by decide +kernel)
    (by first | exact .inl (by decide +kernel) | exact .inr (by decide +kernel)) (by rw [isSubtype_type]; kernel_rfl)
theorem entry_map_next : entryFor table "map.__next__" = some Builtin.«map.__next__» := entryFor_of_tree (by kernel_rfl)
theorem args_map_next_1 (a : Value) : argsOk "map.__next__" ⟨[a], []⟩ := by
  unfold argsOk; rw [signature?_of (id := "map.__next__") (n := ['_', '_', 't', 'x', 'e', 'n', '_', '_']) (o := ['p', 'a', 'm']) (by kernel_rfl) owner_map]; kernel_rfl
theorem entry_map_iter : entryFor table "map.__iter__" = some Builtin.«dict_keyiterator.__iter__» :=
  entryFor_alias (id' := "dict_keyiterator.__iter__") (by kernel_rfl) (by first | rfl | decide +kernel | (unfold String.splitOn; simp +decide [String.splitOnAux])) (by decide +kernel) (by kernel_rfl)
theorem mro_map : mroOf (.type "map") = pure [.type "map", .type "object"] := by rw [mroOf_type]; kernel_rfl
theorem lookup_map_new : typeLookup (.type "map") "__new__" = pure (some (.builtin "map.__new__")) := by rw [typeLookup_type, builtinLookup_eq_fast]; kernel_rfl
theorem called_map : TypeCalled "map" "map.__new__" "object.__init__" :=
  ⟨by decide +kernel, by decide +kernel, ⟨_, _, mro_map⟩, madeBy_type mro_map lookup_map_new (by decide +kernel), by decide +kernel, by rw [isSubtype_type]; kernel_rfl, slot_map_init⟩
theorem typeCall_map_2 (a b : Value) : checkTypeCall "map" ⟨[a, b], []⟩ = pure () := by kernel_rfl
theorem newCall_map_2 (a b : Value) : checkBuiltinCall "map.__new__" ⟨[.type "map", a, b], []⟩ = pure () := by kernel_rfl
theorem entry_map_new : entryFor table "map.__new__" = some Builtin.«map.__new__» := entryFor_of_tree (by kernel_rfl)
theorem sub_map : isSubtype (.type "map") (.type "map") = pure true := by rw [isSubtype_type]; kernel_rfl
end FM

abbrev IsMap (h : Heap) (z TI : Addr) (f : Value) : Prop := h.get? z = some { cls := .type "map", dict := none, data := .fields #[.ref TI, f], slots := #[] }
abbrev IsOne (h : Heap) (T : Addr) (a : Value) : Prop := h.get? T = some { cls := .type "tuple", data := .seq #[a] }

section
variable {prog : Program} {w : World} {A : Around} {E : Value → Shared → Prop} {s : Shared}
theorem nextOf_tuple_item {it t : Addr} {i : Nat} {items} {x : Value} {Q : Value → Shared → Prop} (hit : s.heap.IsTupleIter it t i)
    (ht : s.heap.IsTuple t items) (hx : items[i]? = some x)
    (hQ : ∀ h', h'.IsTupleIter it t (i + 1) → Heap.SameBut it s.heap h' → Q x { s with heap := h' }) :
    wpAny (model prog w) A (Builtin.SmallTypes.nextOf (.ref it)) Q E s := by
  obtain ⟨o, ho, hc, hd⟩ := id hit
  obtain ⟨ol, hol, _, nl, hdl⟩ := ht
  unfold Builtin.SmallTypes.nextOf
  refine wpAny_bind (wpAny_callSpecial?_slot (name := Str.ofString "__next__") hit.typeIs PySem.F.slot_tuple_iterator_next
    (wpAny_call_entry PySem.F.slot_tuple_iterator_next hit.typeIs PySem.F.entry_tuple_iterator_next ?_ (PySem.F.args_tuple_iterator_next_1 _)))
  show wpAny _ _ (field (.ref it) 0 >>= _) _ _ s
  refine wpAny_bind (wpAny_field ho hd (x := .ref t) rfl ?_)
  show wpAny _ _ (if (Value.ref t == Value.none) = true then _ else _) _ _ s
  rw [if_neg (show ¬ ((Value.ref t == Value.none) = true) from Bool.false_ne_true)]
  show wpAny _ _ (field (.ref it) 1 >>= _) _ _ s
  refine wpAny_bind (wpAny_field ho hd (x := .int i 0) rfl ?_)
  show wpAny _ _ (seqItems? (.ref t) >>= _) _ _ s
  refine wpAny_bind (wpAny_seqItems hol hdl ?_)
  simp only [Int.toNat_natCast, hx]
  refine wpAny_bind (wpAny_setField ho hd (by simp) (wpAny_pure ⟨x, rfl, wpAny_pure (hQ _ ?_ (Heap.SameBut.update ..))⟩))
  exact ⟨_, Heap.get?_update_self _ ho (Obj.isFreed_of_fields (Obj.data_mapFields hd _)), (Obj.cls_mapFields ..).trans hc, by
    rw [Obj.data_mapFields hd]; simp [rawInt]⟩

theorem nextOf_tuple_end {it t : Addr} {i : Nat} {items} {Q : Value → Shared → Prop} (hh : A.handled = none)
    (hit : s.heap.IsTupleIter it t i) (ht : s.heap.IsTuple t items) (hx : items[i]? = none)
    (hE : ∀ h' e, Heap.ExtBut it s.heap h' → (∃ o, h'.get? e = some o ∧ o.cls = .type "StopIteration") → E (.ref e) { s with heap := h' }) :
    wpAny (model prog w) A (Builtin.SmallTypes.nextOf (.ref it)) Q E s := by
  obtain ⟨o, ho, hc, hd⟩ := id hit
  obtain ⟨ol, hol, _, nl, hdl⟩ := ht
  unfold Builtin.SmallTypes.nextOf
  refine wpAny_bind (wpAny_callSpecial?_slot (name := Str.ofString "__next__") hit.typeIs PySem.F.slot_tuple_iterator_next
    (wpAny_call_entry PySem.F.slot_tuple_iterator_next hit.typeIs PySem.F.entry_tuple_iterator_next ?_ (PySem.F.args_tuple_iterator_next_1 _)))
  show wpAny _ _ (field (.ref it) 0 >>= _) _ _ s
  refine wpAny_bind (wpAny_field ho hd (x := .ref t) rfl ?_)
  show wpAny _ _ (if (Value.ref t == Value.none) = true then _ else _) _ _ s
  rw [if_neg (show ¬ ((Value.ref t == Value.none) = true) from Bool.false_ne_true)]
  show wpAny _ _ (field (.ref it) 1 >>= _) _ _ s
  refine wpAny_bind (wpAny_field ho hd (x := .int i 0) rfl ?_)
  show wpAny _ _ (seqItems? (.ref t) >>= _) _ _ s
  refine wpAny_bind (wpAny_seqItems hol hdl ?_)
  simp only [Int.toNat_natCast, hx]
  refine wpAny_bind (wpAny_rule (wpAny_bind (wpAny_setField ho hd (by simp) ?_)))
  show wpAny _ _ (newExc (.type "StopIteration") [] >>= _) _ _ _
  refine wpAny_bind ?_
  simp only [newExc, newTuple]
  refine wpAny_bind (wpAny_newObj_type ?_ (by size_fits))
  refine wpAny_bind (m := firstArgMember _ _) (wpAny_of_eq (a := Value.none) (by first | rfl | (simp only [firstArgMember]; rfl)) ?_)
  refine wpAny_newObj_type ?_ (by size_fits)
  simp only [raiseNew]
  refine wpAny_bind (wpAny_handled ?_)
  first | rw [show A.in1.handled = none from hh] | rw [hh]
  refine wpAny_bind (wpAny_pure (wpAny_throw ?_))
  exact hE _ _ (((Heap.SameBut.update ..).extBut.push _).push _) ⟨_, Heap.get?_push_size _ rfl, rfl⟩

theorem map_next_item {z TI it t : Addr} {i : Nat} {items : Array Value} {x : Str} {u : Tok} {Q : Option Value → Shared → Prop} (hzi : z ≠ it) 
    (hz : IsMap s.heap z TI (.builtin "len")) (hT : IsOne s.heap TI (.ref it)) (hit : s.heap.IsTupleIter it t i) (ht : s.heap.IsTuple t items) (hx : items[i]? = some (.str x u))
    (hfit : (x.length : Int) < 2 ^ 63)
    (hQ : ∀ h' tk v, h'.IsTupleIter it t (i + 1) → Heap.SameBut it s.heap h' → Q (some (.int x.length v)) { s with heap := h', toks := tk }) :
    wpAny (model prog w) A (pyNext (.ref z)) Q E s := by
  have hTy : s.TypeIs (.ref z) "map" := ⟨_, hz, rfl⟩
  unfold pyNext
  refine wpAny_bind (wpAny_attempt (wpAny_callSpecial?_slot (name := Str.ofString "__next__") hTy FM.slot_map_next
    (wpAny_call_entry FM.slot_map_next hTy FM.entry_map_next ?_ (FM.args_map_next_1 _))))
  show wpAny _ _ (field (.ref z) 0 >>= _) _ _ s
  refine wpAny_bind (wpAny_field hz rfl (x := .ref TI) rfl ?_)
  refine wpAny_bind (wpAny_seqItems hT rfl ?_)
  show wpAny _ _ (forIn (#[Value.ref it] : Array Value) (#[] : Array Value) _ >>= _) _ _ s
  rw [← Array.forIn_toList]
  simp only [List.forIn_cons, List.forIn_nil, bind_assoc]
  refine wpAny_bind (wpAny_holding (nextOf_tuple_item hit ht hx fun h₁ hit₁ hs₁ => ?_))
  refine wpAny_bind (wpAny_pure ?_)
  refine wpAny_bind (wpAny_pure ?_)
  have hz₁ : IsMap h₁ z TI (.builtin "len") := hs₁.extBut _ _ hzi hz
  refine wpAny_bind (wpAny_field hz₁ rfl (x := .builtin "len") rfl ?_)
  refine wpAny_bind (wpAny_holding ?_)
  show wpAny _ _ (call (.builtin "len") [.str x u]) _ _ _
  refine len_str (by omega) ?_
  refine wpAny_bind (wpAny_letGo ?_)
  exact wpAny_pure ⟨_, rfl, wpAny_pure (hQ _ _ _ hit₁ hs₁)⟩

theorem map_next_end {z TI it t : Addr} {i : Nat} {items : Array Value} {Q : Option Value → Shared → Prop} (hh : A.handled = none)
    (hz : IsMap s.heap z TI (.builtin "len")) (hT : IsOne s.heap TI (.ref it)) (hit : s.heap.IsTupleIter it t i) (ht : s.heap.IsTuple t items) (hx : items[i]? = none)
    (hQ : ∀ h', Heap.ExtBut it s.heap h' → Q none { s with heap := h' }) :
    wpAny (model prog w) A (pyNext (.ref z)) Q E s := by
  have hTy : s.TypeIs (.ref z) "map" := ⟨_, hz, rfl⟩
  unfold pyNext
  refine wpAny_bind (wpAny_attempt (wpAny_callSpecial?_slot (name := Str.ofString "__next__") hTy FM.slot_map_next
    (wpAny_call_entry FM.slot_map_next hTy FM.entry_map_next ?_ (FM.args_map_next_1 _))))
  show wpAny _ _ (field (.ref z) 0 >>= _) _ _ s
  refine wpAny_bind (wpAny_field hz rfl (x := .ref TI) rfl ?_)
  refine wpAny_bind (wpAny_seqItems hT rfl ?_)
  show wpAny _ _ (forIn (#[Value.ref it] : Array Value) (#[] : Array Value) _ >>= _) _ _ s
  rw [← Array.forIn_toList]
  simp only [List.forIn_cons, List.forIn_nil, bind_assoc]
  refine wpAny_bind (wpAny_holding (nextOf_tuple_end hh hit ht hx fun h' e hk he => ?_))
  obtain ⟨o, ho, hc⟩ := he
  refine wpAny_bind (wpAny_isInstance (T := "StopIteration") (b := true) ⟨o, ho, hc⟩ isSubtype_stop ?_)
  exact wpAny_pure (hQ _ hk)

theorem pyIter_map {z TI : Addr} {f : Value} {Q : Value → Shared → Prop} (hz : IsMap s.heap z TI f) (h : Q (.ref z) s) : wpAny (model prog w) A (pyIter (.ref z)) Q E s := by
  have hT : s.TypeIs (.ref z) "map" := ⟨_, hz, rfl⟩
  refine wpAny_pyIter_slot hT FM.slot_map_iter (wpAny_call_entry FM.slot_map_iter hT FM.entry_map_iter ?_ (FM.args_map_iter_1 _))
  show wpAny _ _ (ret (.ref z)) _ _ s
  exact wpAny_pure ⟨_, rfl, "map", _, hT, FM.slot_map_next.lookup, h⟩
end

theorem meets_map_new (l : Addr) (xs : Array Value) :
    Meets (Builtin.«map.__new__» ⟨[.type "map", .builtin "len", .ref l], []⟩) (fun _ R s => s.heap.IsTuple l xs ∧
      R (.ok (.ret (.ref (s.heap.objs.size + 2)))) { s with heap := ((s.heap.push { cls := .type "tuple_iterator", data := .fields #[.ref l, .int 0 0] }).push { cls := .type "tuple", data := .seq #[.ref s.heap.objs.size] }).push { cls := .type "map", data := .fields #[.ref (s.heap.objs.size + 1), .builtin "len"] } }) :=
  .of_wp fun prog w A R s h => by
    obtain ⟨hp, g, d, tk, os⟩ := s; obtain ⟨hl1, h⟩ := h
    have hsub := FM.sub_map
    have hL1 : Heap.IsTuple (Shared.heap ⟨hp, g, d, tk, os⟩) l xs := hl1
    wp_walk using wpAny_pyIter_tuple hL1
    exact ⟨_, rfl, by simp only [Heap.size_push]; exact h⟩
end Mine
end
-- M2
section
open PySem PySem.W PySem.Calls PyProof.Rows
set_option maxRecDepth 100000
namespace Mine
section
variable {prog : Program} {w : World} {A : Around} {E : Value → Shared → Prop} {s : Shared} {h₀ : Heap} {L : Addr} {m : Str → Option Value} {news : List (Addr × Obj)}
theorem map_walks (hh : A.handled = none) (z TI it t : Addr) (hzi : z ≠ it) (hTi : TI ≠ it) (hti : t ≠ it) (items : Array Value) (val : Nat → Str)
    (hval : ∀ i v, items[i]? = some v → (∃ u, v = .str (val i) u) ∧ ((val i).length : Int) < 2 ^ 63) :
    Walks prog w A z [z, TI, it, t] [it] items.size (fun i v => ∃ u, v = .int ((val i).length : Int) u)
      (fun i h => IsMap h z TI (.builtin "len") ∧ IsOne h TI (.ref it) ∧ h.IsTupleIter it t i ∧ h.IsTuple t items) where
  sub := fun c hc => by simp at hc ⊢; simp [hc]
  frame := fun i h h' hst hk => by
    obtain ⟨hz, hT, ⟨oi, hi, ri⟩, ⟨ot, ht, rt⟩⟩ := hst
    exact ⟨hk z (by simp) _ hz, hk TI (by simp) _ hT, ⟨oi, hk it (by simp) _ hi, ri⟩, ⟨ot, hk t (by simp) _ ht, rt⟩⟩
  item := fun i s Q E hi hst hQ => by
    obtain ⟨hz, hT, h1, h2⟩ := hst
    obtain ⟨⟨u, hv⟩, hf⟩ := hval i _ (Array.getElem?_eq_getElem hi)
    refine map_next_item hzi hz hT h1 h2 (by rw [Array.getElem?_eq_getElem hi, hv]) hf fun h' tk v hit' hs' => ?_
    exact hQ _ h' tk ⟨v, rfl⟩ ⟨hs'.extBut _ _ hzi hz, hs'.extBut _ _ hTi hT, hit', h2.extBut hs'.extBut hti⟩ fun b o hb e => hs'.extBut b o (fun x => hb (by simp [x])) e
  done := fun s Q E hst hQ => by
    obtain ⟨hz, hT, h1, h2⟩ := hst
    exact map_next_end hh hz hT h1 h2 (Array.getElem?_eq_none (Nat.le_refl _)) fun h' hk => hQ h' s.toks fun b o hb e => hk b o (fun x => hb (by simp [x])) e
  self := fun _ _ _ _ st hQ => pyIter_map st.1 hQ

theorem call_map_len {l : Addr} {xs : Array Value} {Q : Value → Shared → Prop} (hl : s.heap.IsTuple l xs)
    (h : ∀ h' z TI it, IsMap h' z TI (.builtin "len") → IsOne h' TI (.ref it) → h'.IsTupleIter it l 0 → z ≠ it → TI ≠ it → s.heap.objs.size ≤ it → s.heap.objs.size ≤ TI → s.heap.objs.size ≤ z →
      (∀ c o, s.heap.get? c = some o → h'.get? c = some o) → Q (.ref z) { s with heap := h' }) :
    wpAny (model prog w) A (call (.type "map") [.builtin "len", .ref l]) Q E s := by
  refine callType_new FM.called_map (by decide) (FM.typeCall_map_2 _ _) (FM.newCall_map_2 _ _) (fun obj => PySem.F.args_object_init_3 obj _ _) FM.entry_map_new
    (meets_map_new l xs) ⟨hl, ?_⟩
  generalize hh' : ((s.heap.push { cls := .type "tuple_iterator", data := .fields #[.ref l, .int 0 0] }).push { cls := .type "tuple", data := .seq #[.ref s.heap.objs.size] }).push { cls := .type "map", data := .fields #[.ref (s.heap.objs.size + 1), .builtin "len"] } = h'
  have g3 : h'.get? (s.heap.objs.size + 2) = some { cls := .type "map", data := .fields #[.ref (s.heap.objs.size + 1), .builtin "len"] } := by
    subst hh'
    have := Heap.get?_push_size ((s.heap.push { cls := .type "tuple_iterator", data := .fields #[.ref l, .int 0 0] }).push { cls := .type "tuple", data := .seq #[.ref s.heap.objs.size] }) (o := ({ cls := .type "map", data := .fields #[.ref (s.heap.objs.size + 1), .builtin "len"] } : Obj)) rfl
    rwa [Heap.size_push, Heap.size_push] at this
  have g2 : h'.get? (s.heap.objs.size + 1) = some { cls := .type "tuple", data := .seq #[.ref s.heap.objs.size] } := by
    subst hh'
    refine Heap.get?_push_of_some _ ?_
    have := Heap.get?_push_size (s.heap.push { cls := .type "tuple_iterator", data := .fields #[.ref l, .int 0 0] }) (o := ({ cls := .type "tuple", data := .seq #[.ref s.heap.objs.size] } : Obj)) rfl
    rwa [Heap.size_push] at this
  have g1 : h'.get? s.heap.objs.size = some { cls := .type "tuple_iterator", data := .fields #[.ref l, .int 0 0] } := by
    subst hh'
    exact Heap.get?_push_of_some _ (Heap.get?_push_of_some _ (Heap.get?_push_size _ rfl))
  refine ⟨⟨_, g3, rfl⟩, ?_⟩
  refine h h' _ _ s.heap.objs.size g3 g2 ⟨_, g1, rfl, rfl⟩ (Nat.ne_of_gt (Nat.lt_succ_of_lt (Nat.lt_succ_self _))) (Nat.ne_of_gt (Nat.lt_succ_self _)) (Nat.le_refl _) (Nat.le_succ _) (Nat.le_add_right _ 2) fun c o e => ?_
  subst hh'
  exact Heap.get?_push_of_some _ (Heap.get?_push_of_some _ (Heap.get?_push_of_some _ e))

theorem max_map_len {z TI it t : Addr} {x y : Str} {tx ty : Tok} {Q : Value → Shared → Prop} (hh : A.handled = none)
    (hz : IsMap s.heap z TI (.builtin "len")) (hT : IsOne s.heap TI (.ref it)) (hit : s.heap.IsTupleIter it t 0) (ht : s.heap.IsTuple t #[.str x tx, .str y ty])
    (hzi : z ≠ it) (hTi : TI ≠ it) (hti : t ≠ it) (hx : x.length ≤ 100) (hy : y.length ≤ 100)
    (h : ∀ v h' tk, (∀ b o, b ≠ it → s.heap.get? b = some o → h'.get? b = some o) → Q (.int ((max x.length y.length : Nat) : Int) v) { s with heap := h', toks := tk }) :
    wpAny (model prog w) A (call (.builtin "max") [.ref z]) Q E s := by
  refine call_max_walk (pyIter_map hz ?_)
  have W := map_walks (prog := prog) (w := w) (A := A.in1) hh z TI it t hzi hTi hti #[.str x tx, .str y ty] (fun i => if i = 0 then x else y) (fun i v hv => by
    match i, hv with
    | 0, hv => exact ⟨⟨tx, by simpa using hv.symm⟩, by simp only [if_true]; omega⟩
    | 1, hv => exact ⟨⟨ty, by simpa using hv.symm⟩, by show ((y.length : Nat) : Int) < _; omega⟩
    | i + 2, hv => simp at hv)
  refine ⟨_, _, _, _, _, _, _, rfl, W, ⟨hz, hT, hit, ht⟩, fun b hb => ?_, by simp, CmpOf.ints_gt (fun i => (((if i = 0 then x else y).length : Nat) : Int)) (fun i v hv => hv), fun v h' tk hP hk => ?_⟩
  · simp only [List.mem_cons, List.not_mem_nil, or_false] at hb
    rcases hb with rfl | rfl | rfl | rfl
    · exact Heap.lt_size hz
    · exact Heap.lt_size hT
    · obtain ⟨_, e, _⟩ := hit; exact Heap.lt_size e
    · obtain ⟨_, e, _⟩ := ht; exact Heap.lt_size e
  · obtain ⟨u, rfl⟩ := hP
    have e : (((if argBest (fun i j => decide (((if i = 0 then x else y).length : Int) > ((if j = 0 then x else y).length : Int))) (#[Value.str x tx, Value.str y ty].size - 1) = 0 then x else y).length : Nat) : Int) = ((max x.length y.length : Nat) : Int) := by
      show (((if argBest (fun i j => decide (((if i = 0 then x else y).length : Int) > ((if j = 0 then x else y).length : Int))) 1 = 0 then x else y).length : Nat) : Int) = _
      simp only [argBest]
      by_cases hc : ((y.length : Nat) : Int) > x.length
      · simp [hc]; omega
      · simp [hc]; omega
    show Q (Value.int (((if argBest (fun i j => decide (((if i = 0 then x else y).length : Int) > ((if j = 0 then x else y).length : Int))) (#[Value.str x tx, Value.str y ty].size - 1) = 0 then x else y).length : Nat) : Int) u) _
    rw [e]
    exact h u h' tk fun b o hb q => hk b o (by simpa using hb) q
end
end Mine
end
-- A1
section
open PySem PySem.W PySem.Calls PyProof.Rows
set_option maxRecDepth 100000
namespace Mine
def TruthT (prog : Program) (w : World) (A : Around) (P : Nat → Value → Prop) (tr : Nat → Bool) : Prop :=
  ∀ i v (s : Shared) (Q : Bool → Shared → Prop) (E : Value → Shared → Prop), P i v → (∀ tk, Q (tr i) { s with toks := tk }) → wpAny (model prog w) A (truthy v) Q E s
section
variable {prog : Program} {w : World} {A : Around} {R : Result → Shared → Prop} {I : Addr} {fp wr : List Addr} {n : Nat} {P : Nat → Value → Prop} {St : Nat → Heap → Prop}
theorem all_loopT (W : Walks prog w A.in1 I fp wr n P St) (tr : Nat → Bool) (htr : TruthT prog w A.in1 P tr) : ∀ (k i : Nat) (s : Shared), n - i = k → i ≤ n → St i s.heap →
    (∀ h' tk, (∀ b o, b ∉ wr → s.heap.get? b = some o → h'.get? b = some o) → R (.ok (.ret (.bool (((List.range n).drop i).all tr)))) { s with heap := h', toks := tk }) →
    codeAny (model prog w) A (.builtin "all.loop" ⟨[.ref I], []⟩) R s := by
  intro k
  induction k with
  | zero =>
    intro i s hk hi hst hR
    obtain rfl : i = n := by omega
    refine codeAny_builtin PySem.F.entry_all_loop ?_
    rw [Around.under_plainId PySem.F.plain_all_loop _]
    show wpAny _ A.in1 (pyNext (.ref I) >>= _) _ _ s
    refine wpAny_bind (W.done s _ _ hst fun h' tk hk' => ?_)
    refine wpAny_bind (wpAny_rule (wpAny_pure ?_))
    have := hR h' tk hk'
    rw [List.drop_of_length_le (by simp)] at this
    exact this
  | succ k ih =>
    intro i s hk hi hst hR
    have hlt : i < n := by omega
    have hd : (List.range n).drop i = i :: (List.range n).drop (i + 1) := by
      rw [List.drop_eq_getElem_cons (by simpa using hlt)]; simp
    refine codeAny_builtin PySem.F.entry_all_loop ?_
    rw [Around.under_plainId PySem.F.plain_all_loop _]
    show wpAny _ A.in1 (pyNext (.ref I) >>= _) _ _ s
    refine wpAny_bind (W.item i s _ _ hlt hst fun v h' tk hP hst' hk' => ?_)
    refine wpAny_bind (wpAny_holding (htr i v _ _ _ hP fun tk2 => ?_))
    refine wpAny_bind (wpAny_letGo ?_)
    cases hb : tr i with
    | true =>
      simp only [if_true]
      refine wpAny_pure ⟨plainId_quiet PySem.F.plain_all_loop _, ih (i + 1) _ (by omega) hlt hst' fun h'' tk'' hk'' => ?_⟩
      have := hR h'' tk'' fun b o hbw e => hk'' b o hbw (hk' b o hbw e)
      rw [hd, List.all_cons, hb, Bool.true_and] at this
      exact this
    | false =>
      simp only [Bool.false_eq_true, if_false]
      refine wpAny_bind (wpAny_rule (wpAny_pure ?_))
      have := hR h' tk2 hk'
      rw [hd, List.all_cons, hb, Bool.false_and] at this
      exact this
end
section
variable {prog : Program} {w : World} {A : Around} {E : Value → Shared → Prop} {s : Shared} {h₀ : Heap} {L : Addr} {m : Str → Option Value} {news : List (Addr × Obj)}
theorem all_two {l : Addr} {x y : Str} {t u : Tok} {Q : Value → Shared → Prop} (F : Fr h₀ L s.heap m) (N : News h₀ L s.heap news) (hh : A.handled = none)
    (hl : (l, ({ cls := .type "tuple", data := .seq [Value.str x t, Value.str y u].toArray } : Obj)) ∈ news) (hx : x.length ≤ 100) (hy : y.length ≤ 100)
    (h : ∀ h' tk, Fr h₀ L h' m → News h₀ L h' news → Q (.bool (decide (x.length ≠ 0 ∧ y.length ≠ 0))) { s with heap := h', toks := tk }) :
    wpAny (model prog w) A (call (.builtin "all") [.ref l]) Q E s := by
  refine call_function_tree PySem.F.kind_all PySem.F.plain_all PySem.F.entry_all (PySem.F.args_all1 _) ?_
  unfold Builtin.«all»
  refine wpAny_bind (m := PySem.oneArg "all" _) (wpAny_pure ?_)
  have hT : s.heap.IsTuple l #[Value.str x t, Value.str y u] := News.isTup N hl
  refine wpAny_bind (wpAny_pyIter_tuple hT ?_)
  have hlt : l < s.heap.objs.size := by obtain ⟨o, e, _⟩ := hT; exact Heap.lt_size e
  have W := Walks.tuple (prog := prog) (w := w) (A := A.in1) hh s.heap.objs.size l (Nat.ne_of_lt hlt) #[Value.str x t, Value.str y u]
  refine wpAny_pure ⟨plainId_quiet PySem.F.plain_all_loop _, all_loopT W (fun i => if i = 0 then (x.length : Int) != 0 else (y.length : Int) != 0) ?_ 2 0 _ rfl (Nat.zero_le _) ⟨⟨_, Heap.get?_push_size _ rfl, rfl, rfl⟩, hT.push _⟩ fun h' tk hk => ?_⟩
  · intro i v s' Q' E' hP hQ
    match i, hP with
    | 0, hP =>
      obtain rfl : Value.str x t = v := by simpa using hP
      exact P.truthy_str (by omega) (hQ _)
    | 1, hP =>
      obtain rfl : Value.str y u = v := by simpa using hP
      exact P.truthy_str (by omega) (hQ _)
    | i + 2, hP => simp at hP
  · have e : (((List.range (#[Value.str x t, Value.str y u] : Array Value).size).drop 0).all fun i => if i = 0 then (x.length : Int) != 0 else (y.length : Int) != 0) = decide (x.length ≠ 0 ∧ y.length ≠ 0) := by
      show (((x.length : Int) != 0) && (((y.length : Int) != 0) && true)) = _
      cases h1 : ((x.length : Int) != 0) <;> cases h2 : ((y.length : Int) != 0) <;> simp_all
    show Q (.bool (((List.range (#[Value.str x t, Value.str y u] : Array Value).size).drop 0).all fun i => if i = 0 then (x.length : Int) != 0 else (y.length : Int) != 0)) _
    rw [e]
    have up : ∀ b o, s.heap.get? b = some o → h'.get? b = some o := fun b o q => hk b o (by simpa using Nat.ne_of_lt (Heap.lt_size q)) (Heap.get?_push_of_some _ q)
    exact h h' tk (F.keeps up) (N.grown up)
end
end Mine
end
-- L1
section
open PySem PySem.W PySem.Calls PyProof.Rows
set_option maxRecDepth 100000
namespace Mine
/-- a turn's end: what the loop's iterator is made of stands, the rest is said anew -/
def TurnG (h₀ : Heap) (L : Addr) (J : (Str → Option Value) → List (Addr × Obj) → Prop) (own : List (Addr × Obj)) (s₁ : Shared) (Q : Flow → Shared → Prop) (f : Flow) (s₂ : Shared) : Prop :=
  match f with
  | .ret v => Q (.ret v) s₂
  | .brk => Q .next s₂
  | _ => ∃ h' tk m' nx, s₂ = { s₁ with heap := h', toks := tk } ∧ Fr h₀ L h' m' ∧ News h₀ L h' nx ∧ News h₀ L h' own ∧ (∀ q ∈ nx, ∀ p ∈ own, q.1 ≠ p.1) ∧ J m' nx
section
variable {prog : Program} {w : World} {A : Around} {E : Value → Shared → Prop} {s : Shared} {env : Env} {h₀ : Heap} {x : Str} {body : List Stmt} {Q : Flow → Shared → Prop} {m : Str → Option Value} {news : List (Addr × Obj)}
theorem TurnG.toV {L : Addr} {J : (Str → Option Value) → List (Addr × Obj) → Prop} {own own' : List (Addr × Obj)} {wr : List Addr} {s₁ s₂ : Shared} {f : Flow} (hsub : ∀ p ∈ own', p ∈ own) (hwr : ∀ b ∈ wr, ∃ o, (b, o) ∈ own) (h : TurnG h₀ L J own s₁ Q f s₂) :
    LoopStepV h₀ L wr own' J s₁ (fun v s' => Q (.ret v) s') (fun s' => Q .next s') f s₂ := by
  have fin : (∃ h' tk m' nx, s₂ = { s₁ with heap := h', toks := tk } ∧ Fr h₀ L h' m' ∧ News h₀ L h' nx ∧ News h₀ L h' own ∧ (∀ q ∈ nx, ∀ p ∈ own, q.1 ≠ p.1) ∧ J m' nx) → LoopStepU h₀ L wr own' J s₁ .next s₂ := by
    rintro ⟨h', tk, m', nx, e, F, N, No, hd, hJ⟩
    refine ⟨rfl, h', tk, m', nx, e, F, fun p hp => ?_, fun p hp hb => ?_, hJ⟩
    · rcases List.mem_append.mp hp with hp | hp
      · exact No p (hsub p hp)
      · exact N p hp
    · obtain ⟨o, ho⟩ := hwr _ hb
      exact hd p hp _ ho rfl
  cases f with
  | ret v => exact .ret h
  | brk => exact .brk h
  | next => exact .next (fin h)
  | cont => exact .cont (fin h)

theorem iter_range {r : Addr} {a b : Int} {t₀ u₀ v₀ : Tok} {n : Nat} (J : Nat → (Str → Option Value) → List (Addr × Obj) → Prop)
    (hh : A.handled = none) (hr : IsRange s.heap r a b 1 t₀ u₀ v₀) (ha : -1000 ≤ a ∧ a ≤ 1000) (hb : -1000 ≤ b ∧ b ≤ 1000) (hn : (n : Int) = if a ≤ b then b - a else 0)
    (F : Fr h₀ env.locals s.heap m) (N : News h₀ env.locals s.heap news) (hj : J 0 m news)
    (turn : ∀ i m₁ news₁ h tk t I o, i < n → J i m₁ news₁ → (∀ q ∈ news₁, q.1 ≠ I) → Fr h₀ env.locals h (fun y => if y = x then some (.int (a + (i : Nat)) t) else m₁ y) → News h₀ env.locals h (news₁ ++ [(I, o)]) →
      wpAny (model prog w) A (execs body env) (TurnG h₀ env.locals (J (i + 1)) [(I, o)] { s with heap := h, toks := tk } Q) E { s with heap := h, toks := tk })
    (done : ∀ m₁ news₁ h tk, J n m₁ news₁ → Fr h₀ env.locals h m₁ → News h₀ env.locals h news₁ → Q .next { s with heap := h, toks := tk }) :
    wpAny (model prog w) A (pyIter (.ref r)) (fun it s₂ => LoopAtV prog w A h₀ env x body Q E it s₂) E s := by
  have hsize : Builtin.Range.rangeSize a b 1 = (n : Int) := by
    unfold Builtin.Range.rangeSize
    rw [hn]
    split <;> split <;> first | omega | (simp_all; try omega)
  have hsmall : Builtin.Range.small a b 1 = true := by
    unfold Builtin.Range.small
    rw [hsize]
    have f1 : ∀ k : Int, -3000 ≤ k → k ≤ 3000 → Builtin.Range.rangeFitsLong k = true := fun k h1 h2 => by
      unfold Builtin.Range.rangeFitsLong
      simp only [Bool.and_eq_true, decide_eq_true_eq]
      omega
    have hn2 : (n : Int) ≤ 2000 := by rw [hn]; split <;> omega
    rw [f1 a (by omega) (by omega), f1 b (by omega) (by omega), f1 1 (by omega) (by omega), f1 n (by omega) (by omega)]
    simp only [Bool.true_and, if_true, show ((1 : Int) > 0) from by decide]
    rw [f1 (b + (1 - 1)) (by omega) (by omega)]
    simp
  refine wpAny_pyIter_range hr hsmall ?_
  have W := Walks.range (prog := prog) (w := w) hh s.heap.objs.size a 1 n
  obtain ⟨oL, _, _, hL, _⟩ := id F.ns
  have hLlt : env.locals < s.heap.objs.size := Heap.lt_size hL
  refine ⟨_, _, _, n, _, _, m, news, J, rfl, W, ?_, ?_, ?_, ?_, F.push _, (fun p hp => ⟨Heap.get?_push_of_some _ (N p hp).1, (N p hp).2⟩), hj, ?_, ?_⟩
  · intro hm; exact absurd (List.mem_singleton.mp hm) (Nat.ne_of_lt hLlt)
  · intro b' hb'
    rw [List.mem_singleton.mp hb']
    cases e : h₀.get? s.heap.objs.size with
    | none => rfl
    | some o' => exact absurd (Heap.lt_size (F.keep _ _ e)) (Nat.lt_irrefl _)
  · intro p hp hm
    rw [List.mem_singleton] at hm
    exact absurd (Heap.lt_size (N p hp).1) (hm ▸ Nat.lt_irrefl _)
  · show IsRangeIter _ _ _ _ _
    rw [hsize]
    simpa using Heap.get?_push_size _ rfl
  · rintro i v m₁ news₁ s₁ own ⟨hh', tk', rfl⟩ hi ⟨t, rfl⟩ hJ hnw hown hget hall hst F₁ N₁
    have hI := hst
    have hown2 : ∀ p ∈ own, p = (s.heap.objs.size, ({ cls := .type "range_iterator", dict := none, data := .fields #[rawInt (a + ((i + 1 : Nat) : Int) * 1), rawInt ((n : Int) - ((i + 1 : Nat) : Int)), rawInt 1], slots := #[] } : Obj)) := by
      intro p hp
      have e1 : p.1 = s.heap.objs.size := List.mem_singleton.mp (hown p hp)
      have e2 := hget p hp
      rw [e1] at e2
      have e3 : some p.2 = some _ := e2.symm.trans hI
      exact Prod.ext e1 (Option.some.inj e3)
    have N₂ : News h₀ env.locals hh' (news₁ ++ [(s.heap.objs.size, ({ cls := .type "range_iterator", dict := none, data := .fields #[rawInt (a + ((i + 1 : Nat) : Int) * 1), rawInt ((n : Int) - ((i + 1 : Nat) : Int)), rawInt 1], slots := #[] } : Obj))]) := by
      intro p hp
      rcases List.mem_append.mp hp with hp | hp
      · exact N₁ p (List.mem_append_right _ hp)
      · rw [List.mem_singleton.mp hp]
        have hnone : h₀.get? s.heap.objs.size = none := by
          cases e : h₀.get? s.heap.objs.size with
          | none => rfl
          | some o' => exact absurd (Heap.lt_size (F.keep _ _ e)) (Nat.lt_irrefl _)
        exact N₁ _ (List.mem_append_left _ (hall _ (List.mem_singleton.mpr rfl) hnone _ hI))
    have e0 : a + (i : Int) * 1 = a + (i : Nat) := by omega
    rw [e0] at F₁
    refine wpAny_mono (turn i m₁ news₁ hh' tk' t _ _ hi hJ (fun q hq e => hnw q hq (List.mem_singleton.mpr e)) F₁ N₂) (fun f s₂ p => ?_) fun _ _ e => e
    exact TurnG.toV (fun p hp => List.mem_singleton.mpr (hown2 p hp)) (fun b' hb' => by rw [List.mem_singleton] at hb'; subst hb'; exact ⟨_, List.mem_singleton.mpr rfl⟩) p
  · rintro h' tk m' news' F' N' _ hJ
    exact done m' news' h' tk hJ F' N'
end
end Mine
namespace Mine
theorem upd_self {m : Str → Option Value} {x : Str} {v : Value} (h : m x = some v) : m = fun y => if y = x then some v else m y := by
  funext y
  by_cases e : y = x
  · subst e; simp [h]
  · simp [e]
theorem fr_give {h₀ h : Heap} {L : Addr} {m : Str → Option Value} (F : Fr h₀ L h m) {x : Str} {v : Value} (e : m x = some v) : Fr h₀ L h (fun y => if y = x then some v else m y) := by
  rw [← upd_self e]; exact F
theorem news_pick {h₀ h : Heap} {L a : Addr} {o : Obj} {news rest : List (Addr × Obj)} (N : News h₀ L h news) (hm : (a, o) ∈ news) (R : News h₀ L h rest) : News h₀ L h ((a, o) :: rest) := by
  intro p hp
  rcases List.mem_cons.mp hp with rfl | hp
  · exact N _ hm
  · exact R p hp
end Mine
namespace Mine
section
variable {prog : Program} {w : World} {A : Around} {E : Value → Shared → Prop} {s : Shared} {h₀ : Heap} {L : Addr} {m : Str → Option Value} {news : List (Addr × Obj)}
theorem min3_N {a b c : Int} {t u x : Tok} {Q : Value → Shared → Prop} (hh : A.handled = none) (F : Fr h₀ L s.heap m) (N : News h₀ L s.heap news)
    (h : ∀ v h' tk, Fr h₀ L h' m → News h₀ L h' news → Q (.int (min (min a b) c) v) { s with heap := h', toks := tk }) :
    wpAny (model prog w) A (call (.builtin "min") [.int a t, .int b u, .int c x]) Q E s :=
  min_three_ints hh fun h' tk hk => by
    have g := fun v => h v h' tk (F.keeps hk) (N.grown hk)
    split <;> split <;> (rename_i c1 c2; first | (have e : min (min a b) c = c := by omega); rw [e] at g; exact g _ | (have e : min (min a b) c = b := by omega); rw [e] at g; exact g _ | (have e : min (min a b) c = a := by omega); rw [e] at g; exact g _)
theorem min2_N {a b : Int} {t u : Tok} {Q : Value → Shared → Prop} (hh : A.handled = none) (F : Fr h₀ L s.heap m) (N : News h₀ L s.heap news)
    (h : ∀ v h' tk, Fr h₀ L h' m → News h₀ L h' news → Q (.int (min a b) v) { s with heap := h', toks := tk }) :
    wpAny (model prog w) A (call (.builtin "min") [.int a t, .int b u]) Q E s :=
  min_two_ints hh fun h' tk hk => by
    have g := fun v => h v h' tk (F.keeps hk) (N.grown hk)
    by_cases c : b < a
    · rw [if_pos c]; have e : min a b = b := by omega
      rw [e] at g; exact g _
    · rw [if_neg c]; have e : min a b = a := by omega
      rw [e] at g; exact g _
theorem max2_N {a b : Int} {t u : Tok} {Q : Value → Shared → Prop} (hh : A.handled = none) (F : Fr h₀ L s.heap m) (N : News h₀ L s.heap news)
    (h : ∀ v h' tk, Fr h₀ L h' m → News h₀ L h' news → Q (.int (max a b) v) { s with heap := h', toks := tk }) :
    wpAny (model prog w) A (call (.builtin "max") [.int a t, .int b u]) Q E s :=
  max_two_ints hh fun h' tk hk => by
    have g := fun v => h v h' tk (F.keeps hk) (N.grown hk)
    by_cases c : b > a
    · rw [if_pos c]; have e : max a b = b := by omega
      rw [e] at g; exact g _
    · rw [if_neg c]; have e : max a b = a := by omega
      rw [e] at g; exact g _
end
end Mine
namespace Mine
theorem rangeKs_getD {a : Int} {n j : Nat} (h : j < n) : (rangeKs a n).getD j 0 = a + (j : Int) := by
  simp [rangeKs, List.getD_eq_getElem?_getD, h]
end Mine
end
-- L2
section
open PySem PySem.W PySem.Calls PyProof.Rows
set_option maxRecDepth 100000
namespace Mine
/-- a list of k ints, by their values -/
def IsRow (k : Nat) (f : Nat → Int) (o : Obj) : Prop := ∃ cv n ns, o = W.listOf (List.toArray cv) n ∧ IntsAre cv ns ∧ ns.length = k ∧ ∀ j : Nat, j < k → ns.getD j 0 = f j
theorem allLt_mem {d : Addr} : ∀ {l : List (Addr × Obj)}, AllLt d l → ∀ p ∈ l, p.1 < d
  | [], _, _, h => nomatch h
  | _ :: _, x, p, h => by
    rcases List.mem_cons.mp h with rfl | h
    · exact x.1
    · exact allLt_mem x.2 p h
def refsOf (rows : List (Addr × Obj)) : List Value := rows.map fun p => .ref p.1
section
variable {prog : Program} {w : World} {A : Around} {h₀ : Heap} {L : Addr} {m : Str → Option Value} {env : Env} {elt : Expr} {x : Str} {scope : Scope} {cl : List (Str × Addr)} {s : Shared} {P : Nat → Value → Prop} {Fin : List Value → List (Addr × Obj) → Prop} {news : List (Addr × Obj)}
theorem rows_rest {n k : Nat}
    (turn : ∀ v I oI C oC D m₂ ys h tk acc (E' : Value → Shared → Prop), LCg.NsObj oC m₂ → m₂ x = some v → Fr h₀ L h m → News h₀ L h ((I, oI) :: (C, oC) :: (D, LCg.lst ys) :: (news ++ acc)) → LCg.Off3 I C D (news ++ acc) → ((@Ne Nat I C) ∧ (@Ne Nat I D) ∧ (@Ne Nat C D)) →
      wpAny (model prog w) A (eval elt (compEnvC scope cl C env)) (LCg.CompEnd h₀ L m { s with heap := h, toks := tk } I oI C oC D (LCg.lst ys) (fun _ => True) (fun y news' => ∃ r o, y = .ref r ∧ news' = news ++ (r, o) :: acc ∧ IsRow k (fun _ => 0) o ∧ (∀ p ∈ news ++ acc, p.1 ≠ r))) E' { s with heap := h, toks := tk })
    (fin : ∀ rows : List (Addr × Obj), rows.length = n → (rows.map (·.1)).Nodup → (∀ p ∈ rows, IsRow k (fun _ => 0) p.2) → (∀ p ∈ rows, ∀ q ∈ news, q.1 ≠ p.1) → Fin (refsOf rows) (news ++ rows.reverse)) :
    LCg.CompRest prog w A h₀ L m env elt x scope cl s (fun _ => True) P Fin n 0 [] news := by
  have key : ∀ (j i : Nat) (rows : List (Addr × Obj)), i + j = n → rows.length = i → (rows.map (·.1)).Nodup → (∀ p ∈ rows, IsRow k (fun _ => 0) p.2) → (∀ p ∈ rows, ∀ q ∈ news, q.1 ≠ p.1) →
      LCg.CompRest prog w A h₀ L m env elt x scope cl s (fun _ => True) P Fin j i (refsOf rows) (news ++ rows.reverse) := by
    intro j
    induction j with
    | zero =>
      intro i rows hi hl hnd hr hn
      exact LCg.CompRest.zero (fin rows (by omega) hnd hr hn)
    | succ j ih =>
      intro i rows hi hl hnd hr hn
      refine LCg.CompRest.succ ?_
      intro v I oI C oC D m₂ h tk E' hv hC hx F N off ne
      refine wpAny_mono (turn v I oI C oC D m₂ _ h tk rows.reverse E' hC hx F N off ne) (fun y s₂ hq => ?_) fun _ _ e => e
      obtain ⟨h', tk', nw, e, F', N', off', hS, r, o, rfl, rfl, hrow, hlt⟩ := hq
      refine ⟨h', tk', _, e, F', N', off', hS, ?_⟩
      have e1 : refsOf rows ++ [Value.ref r] = refsOf (rows ++ [(r, o)]) := by simp [refsOf]
      have e2 : (r, o) :: rows.reverse = (rows ++ [(r, o)]).reverse := by simp
      show LCg.CompRest prog w A h₀ L m env elt x scope cl s (fun _ => True) P Fin j (i + 1) (refsOf rows ++ [Value.ref r]) (news ++ (r, o) :: rows.reverse)
      rw [e1, e2]
      refine ih (i + 1) (rows ++ [(r, o)]) (by omega) (by simp [hl]) ?_ ?_ ?_
      · rw [List.map_append, List.nodup_append]
        refine ⟨hnd, by simp, ?_⟩
        intro a ha b hb
        obtain ⟨p, hp, rfl⟩ := List.mem_map.mp ha
        simp only [List.map_cons, List.map_nil, List.mem_singleton] at hb
        subst hb
        exact hlt p (List.mem_append_right _ (List.mem_reverse.mpr hp))
      · intro p hp
        rcases List.mem_append.mp hp with hp | hp
        · exact hr p hp
        · rw [List.mem_singleton.mp hp]; exact hrow
      · intro p hp q hq
        rcases List.mem_append.mp hp with hp | hp
        · exact hn p hp q hq
        · rw [List.mem_singleton.mp hp]
          exact hlt q (List.mem_append_left _ hq)
  have := key n 0 [] (by omega) rfl (by simp) (fun _ h => nomatch h) (fun _ h => nomatch h)
  simpa [refsOf] using this
end
end Mine
end
-- P1
section
open PySem
namespace Mine
/-- the edit distance of the beginnings, by the matrix of like letters -/
def dist (q : Nat → Nat → Bool) : Nat → Nat → Nat
  | 0, j => j
  | i + 1, 0 => i + 1
  | i + 1, j + 1 => min (min (dist q i j + if q i j then 0 else 1) (dist q i (j + 1) + 1)) (dist q (i + 1) j + 1)
def like (x y : Str) (i j : Nat) : Bool := decide (Txt.item x i = Txt.item y j)
theorem dist_zero (q : Nat → Nat → Bool) (j : Nat) : dist q 0 j = j := by unfold dist; rfl
theorem dist_left (q : Nat → Nat → Bool) (i : Nat) : dist q i 0 = i := by cases i <;> (unfold dist; rfl)
theorem dist_step (q : Nat → Nat → Bool) (i j : Nat) : dist q (i + 1) (j + 1) = min (min (dist q i j + if q i j then 0 else 1) (dist q i (j + 1) + 1)) (dist q (i + 1) j + 1) := by
  conv => lhs; unfold dist
end Mine
namespace Mine
theorem getD_set {ns : List Int} {V : Int} {n j : Nat} (hn : n < ns.length) : (ns.set n V).getD j 0 = if j = n then V else ns.getD j 0 := by
  simp only [List.getD_eq_getElem?_getD, List.getElem?_set]
  by_cases h : n = j
  · subst h; simp [hn]
  · have h' : ¬ j = n := fun e => h e.symm
    simp [h, h']
theorem cy_turn {q : Nat → Nat → Bool} {ns ns2 : List Int} {i k m : Nat} {V : Int} (hval : ∀ j : Nat, j ≤ m → ns.getD j 0 = dist q i j) (hval2 : ∀ j : Nat, j ≤ k → ns2.getD j 0 = dist q (i + 1) j) (hk : k < m) (hlen : ns2.length = m + 1)
    (hV : V = min (min (ns.getD k 0 + if q i k then 0 else 1) (ns.getD (k + 1) 0 + 1)) (ns2.getD k 0 + 1)) : ∀ j : Nat, j ≤ k + 1 → (ns2.set (k + 1) V).getD j 0 = dist q (i + 1) j := by
  intro j hj
  rw [getD_set (by omega)]
  by_cases e : j = k + 1
  · subst e
    rw [if_pos rfl, hV, hval k (by omega), hval (k + 1) (by omega), hval2 k (by omega), dist_step]
    split <;> omega
  · rw [if_neg e]; exact hval2 j (by omega)
theorem flat_len (n : Nat) : (List.replicate n [(0 : Int)]).flatten.length = n := by simp [List.length_flatten]
end Mine
namespace Mine
theorem dist_congr {q r : Nat → Nat → Bool} : ∀ n m : Nat, (∀ i j, i < n → j < m → q i j = r i j) → dist q n m = dist r n m
  | 0, m, _ => by rw [dist_zero, dist_zero]
  | n + 1, 0, _ => by rw [dist_left, dist_left]
  | n + 1, m + 1, h => by
    rw [dist_step, dist_step, h n m (Nat.lt_succ_self _) (Nat.lt_succ_self _), dist_congr n m fun i j a b => h i j (Nat.lt_succ_of_lt a) (Nat.lt_succ_of_lt b),
      dist_congr n (m + 1) fun i j a b => h i j (Nat.lt_succ_of_lt a) b, dist_congr (n + 1) m fun i j a b => h i j a (Nat.lt_succ_of_lt b)]
  termination_by n m => n + m
theorem dist_same {q : Nat → Nat → Bool} : ∀ n : Nat, (∀ k, k < n → q k k = true) → dist q n n = 0
  | 0, _ => by rw [dist_zero]
  | n + 1, h => by
    rw [dist_step, h n (Nat.lt_succ_self _), dist_same n fun k hk => h k (Nat.lt_succ_of_lt hk)]
    simp
theorem like_self (x : Str) (k : Nat) : like x x k k = true := by simp [like]
end Mine
end
-- P2
section
open PySem
namespace Mine
def pre (x : Str) (j : Nat) : Str := ⟨(x.cps.toList.take j).toArray⟩
theorem pre_length {x : Str} {j : Nat} (h : j ≤ x.length) : (pre x j).length = j := by
  unfold pre Str.length at *
  simp; omega
theorem slice_to {x : Str} {j : Nat} (h : j ≤ x.length) : Txt.slice x none (some (j : Int)) = pre x j := by
  have e : Txt.slice x none (some (j : Int)) = StrLaws.sliceText x none (some (j : Int)) := rfl
  rw [e, StrLaws.sliceText_to ⟨by omega, by simp [Str.length] at h ⊢; omega⟩]
  unfold pre
  simp
theorem slice_back {x : Str} (h : 1 ≤ x.length) : Txt.slice x none (some (-1)) = pre x (x.length - 1) := by
  have e : Txt.slice x none (some (-1)) = StrLaws.sliceText x none (some (-1)) := rfl
  rw [e, StrLaws.sliceText_neg_hi x none (by omega) (by omega)]
  have e2 : (-1 : Int) + x.length = ((x.length - 1 : Nat) : Int) := by omega
  rw [e2]
  exact slice_to (x := x) (j := x.length - 1) (by omega)
theorem item_at {x : Str} {i : Nat} (h : i < x.length) : Txt.item x (i : Int) = ⟨#[x.cps.getD i 0]⟩ := by
  have := PySem.W.item_meets (x := x) (i := (i : Int)) ⟨by omega, by omega⟩
  simpa using this
theorem item_pre {x : Str} {j i : Nat} (hj : j ≤ x.length) (h : i < j) : Txt.item (pre x j) (i : Int) = Txt.item x (i : Int) := by
  rw [item_at (x := pre x j) (by rw [pre_length hj]; exact h), item_at (x := x) (by omega)]
  have e : (pre x j).cps.getD i 0 = x.cps.getD i 0 := by
    unfold pre
    unfold Str.length at hj
    simp only [Array.getD_eq_getD_getElem?, List.getElem?_toArray, List.getElem?_take]
    rw [if_pos h]
    simp
  rw [e]
theorem item_last {x : Str} (h : 1 ≤ x.length) : Txt.item x (-1) = Txt.item x ((x.length - 1 : Nat) : Int) := by
  unfold Txt.item Txt.charAt seqIndex?
  have e1 : ((-1 : Int) < 0) := by omega
  have e2 : ¬ (((x.length - 1 : Nat) : Int) < 0) := by omega
  rw [if_pos e1, if_neg e2]
  have e3 : (-1 : Int) + x.length = ((x.length - 1 : Nat) : Int) := by omega
  rw [e3]
theorem dist_pre {x y : Str} {i j : Nat} (hi : i ≤ x.length) (hj : j ≤ y.length) : dist (like (pre x i) (pre y j)) i j = dist (like x y) i j :=
  dist_congr i j fun a b ha hb => by
    unfold like
    rw [item_pre hi ha, item_pre hj hb]
theorem pre_whole (x : Str) : pre x x.length = x := by
  unfold pre Str.length
  rw [List.take_of_length_le (by simp)]
-- the edit distance's laws
theorem dist_lip1 (q : Nat → Nat → Bool) (i j : Nat) : dist q (i + 1) j ≤ dist q i j + 1 := by
  cases j with
  | zero => rw [dist_left, dist_left]; omega
  | succ j => rw [dist_step]; omega
theorem dist_lip2 (q : Nat → Nat → Bool) (i j : Nat) : dist q i (j + 1) ≤ dist q i j + 1 := by
  cases i with
  | zero => rw [dist_zero, dist_zero]; omega
  | succ i => rw [dist_step]; omega
/-- one step back along either side costs one at most -/
theorem dist_back (q : Nat → Nat → Bool) : ∀ n i j : Nat, i + j ≤ n → dist q i j ≤ dist q (i + 1) j + 1 ∧ dist q i j ≤ dist q i (j + 1) + 1 ∧ dist q i j ≤ dist q (i + 1) (j + 1) := by
  intro n
  induction n with
  | zero =>
    intro i j h
    obtain rfl : i = 0 := by omega
    obtain rfl : j = 0 := by omega
    rw [dist_zero]; omega
  | succ n ih =>
    intro i j h
    have a : dist q i j ≤ dist q (i + 1) j + 1 := by
      cases j with
      | zero => rw [dist_left, dist_left]; omega
      | succ j =>
        have e := dist_step q i j
        have b1 := (ih i j (by omega)).2.1
        have b2 := dist_lip2 q i j
        have b3 := (ih i j (by omega)).1
        omega
    have b : dist q i j ≤ dist q i (j + 1) + 1 := by
      cases i with
      | zero => rw [dist_zero, dist_zero]; omega
      | succ i =>
        have e := dist_step q i j
        have b1 := (ih i j (by omega)).1
        have b2 := dist_lip1 q i j
        have b3 := (ih i j (by omega)).2.1
        omega
    refine ⟨a, b, ?_⟩
    have e := dist_step q i j
    omega
theorem dist_diag (q : Nat → Nat → Bool) (i j : Nat) : dist q i j ≤ dist q (i + 1) (j + 1) := (dist_back q _ i j (Nat.le_refl _)).2.2
theorem dist_like {q : Nat → Nat → Bool} {i j : Nat} (h : q i j = true) : dist q (i + 1) (j + 1) = dist q i j := by
  have e := dist_step q i j
  rw [h] at e
  have := dist_diag q i j
  simp at e
  omega
theorem dist_unlike {q : Nat → Nat → Bool} {i j : Nat} (h : q i j = false) : dist q (i + 1) (j + 1) = min (min (dist q i j) (dist q i (j + 1))) (dist q (i + 1) j) + 1 := by
  have e := dist_step q i j
  rw [h] at e
  simp at e
  omega
end Mine
namespace Mine
theorem dist_pre_l {x y : Str} {i : Nat} (hi : i ≤ x.length) : dist (like (pre x i) y) i y.length = dist (like x y) i y.length := by
  have := dist_pre (x := x) (y := y) hi (Nat.le_refl y.length)
  rwa [pre_whole] at this
theorem dist_pre_r {x y : Str} {j : Nat} (hj : j ≤ y.length) : dist (like x (pre y j)) x.length j = dist (like x y) x.length j := by
  have := dist_pre (x := x) (y := y) (Nat.le_refl x.length) hj
  rwa [pre_whole] at this
/-- what _recursive's three calls give -/
theorem rec_like {x y : Str} (hx : 1 ≤ x.length) (hy : 1 ≤ y.length) (h : Txt.item x (-1) = Txt.item y (-1)) :
    dist (like (Txt.slice x none (some (-1))) (Txt.slice y none (some (-1)))) (Txt.slice x none (some (-1))).length (Txt.slice y none (some (-1))).length = dist (like x y) x.length y.length := by
  rw [slice_back hx, slice_back hy, pre_length (by omega), pre_length (by omega), dist_pre (by omega) (by omega)]
  rw [item_last hx, item_last hy] at h
  have := dist_like (q := like x y) (i := x.length - 1) (j := y.length - 1) (by unfold like; simpa using h)
  rw [show x.length - 1 + 1 = x.length from by omega, show y.length - 1 + 1 = y.length from by omega] at this
  exact this.symm
theorem rec_unlike {x y : Str} (hx : 1 ≤ x.length) (hy : 1 ≤ y.length) (h : ¬ Txt.item x (-1) = Txt.item y (-1)) :
    min (min (dist (like (Txt.slice x none (some (-1))) y) (Txt.slice x none (some (-1))).length y.length) (dist (like x (Txt.slice y none (some (-1)))) x.length (Txt.slice y none (some (-1))).length))
      (dist (like (Txt.slice x none (some (-1))) (Txt.slice y none (some (-1)))) (Txt.slice x none (some (-1))).length (Txt.slice y none (some (-1))).length) + 1 = dist (like x y) x.length y.length := by
  rw [slice_back hx, slice_back hy, pre_length (by omega), pre_length (by omega), dist_pre (by omega) (by omega), dist_pre_l (by omega), dist_pre_r (by omega)]
  rw [item_last hx, item_last hy] at h
  have := dist_unlike (q := like x y) (i := x.length - 1) (j := y.length - 1) (by unfold like; simpa using h)
  rw [show x.length - 1 + 1 = x.length from by omega, show y.length - 1 + 1 = y.length from by omega] at this
  omega
end Mine
namespace Mine
theorem rec_unlikeZ {x y : Str} (hx : 1 ≤ x.length) (hy : 1 ≤ y.length) (h : ¬ Txt.item x (-1) = Txt.item y (-1)) :
    min (min ((dist (like (Txt.slice x none (some (-1))) y) (Txt.slice x none (some (-1))).length y.length : Nat) : Int) (dist (like x (Txt.slice y none (some (-1)))) x.length (Txt.slice y none (some (-1))).length : Nat))
      (dist (like (Txt.slice x none (some (-1))) (Txt.slice y none (some (-1)))) (Txt.slice x none (some (-1))).length (Txt.slice y none (some (-1))).length : Nat) + 1 = (dist (like x y) x.length y.length : Nat) := by
  have := rec_unlike hx hy h
  omega
end Mine
end
-- L3
section
open PySem PySem.W PySem.Calls PyProof.Rows
set_option maxRecDepth 100000
namespace Mine
theorem signs_item {x : Str} {i : Nat} {a : Str} (h : (signs x)[i]? = some a) : i < x.length ∧ a = Txt.item x (i : Int) := by
  unfold signs at h
  rw [List.getElem?_map] at h
  cases e : x.cps.toList[i]? with
  | none => rw [e] at h; exact absurd h (by simp)
  | some c =>
    rw [e] at h
    simp only [Option.map_some, Option.some.injEq] at h
    obtain ⟨hi, hc⟩ := List.getElem?_eq_some_iff.mp e
    have hi' : i < x.length := by simpa [Str.length] using hi
    refine ⟨hi', ?_⟩
    rw [item_at hi', ← h]
    have : x.cps.getD i 0 = c := by
      rw [← hc]
      have hi2 : i < x.cps.size := by simpa using hi
      simp [Array.getD, hi2]
    rw [this]
def Tab (k : Nat) (T : Nat → Nat → Int) (as : List Addr) (rows : List (Addr × Obj)) : Prop := rows.map (·.1) = as ∧ ∀ i p, rows[i]? = some p → IsRow k (T i) p.2
def Apart (as : List Addr) (news : List (Addr × Obj)) : Prop := ∀ a ∈ as, ∀ q ∈ news, q.1 ≠ a
theorem Tab.congr {k : Nat} {T T' : Nat → Nat → Int} {as : List Addr} {rows : List (Addr × Obj)} (h : Tab k T as rows) (e : ∀ i, i < as.length → ∀ j, j < k → T i j = T' i j) : Tab k T' as rows := by
  refine ⟨h.1, fun i p hp => ?_⟩
  obtain ⟨cv, n, ns, a, b, c, d⟩ := h.2 i p hp
  refine ⟨cv, n, ns, a, b, c, fun j hj => ?_⟩
  have hi : i < as.length := by
    rw [← h.1, List.length_map]
    exact (List.getElem?_eq_some_iff.mp hp).1
  rw [d j hj, e i hi j hj]
theorem Tab.row {k : Nat} {T : Nat → Nat → Int} {as : List Addr} {rows : List (Addr × Obj)} (h : Tab k T as rows) {i : Nat} {a : Addr} (ha : as[i]? = some a) : ∃ o, rows[i]? = some (a, o) ∧ IsRow k (T i) o := by
  rw [← h.1, List.getElem?_map] at ha
  cases e : rows[i]? with
  | none => rw [e] at ha; exact absurd ha (by simp)
  | some p =>
    rw [e] at ha
    simp only [Option.map_some, Option.some.injEq] at ha
    subst ha
    exact ⟨p.2, rfl, h.2 i p e⟩
section
variable {prog : Program} {w : World} {A : Around} {E : Value → Shared → Prop} {s : Shared} {h₀ : Heap} {L D a : Addr} {m : Str → Option Value} {news rows own : List (Addr × Obj)} {k : Int} {as : List Addr} {u : Tok} {kw : Nat} {T : Nat → Nat → Int} {i : Nat}
theorem tab_row {value slice : PySem.Expr} {Q : Value → Shared → Prop} (N : News h₀ L s.heap news) (hm : (D, LCg.lst (as.map Value.ref)) ∈ news) (h0 : 0 ≤ k) (h1 : k < as.length) (hfit : k < 2 ^ 63)
    (h : ∀ a, as[k.toNat]? = some a → Q (.ref a) s)
    (hs : subscripted slice false (.ref D) (.int k u) = operate [.ref D, .int k u] (getItem (.ref D) (.int k u)) := by with_unfolding_all rfl) :
    wpAny (model prog w) A (subscriptTail value slice (.ref D) (.int k u)) Q E s := by
  have hl : s.heap.IsList D (as.map Value.ref).toArray := PySem.IsL.isList (n := (as.map Value.ref).length) (N _ hm).1
  have hlt : k.toNat < as.length := by omega
  exact tail_any hl.typeIs slot_list_getitem.lookup (wpAny_getItem_list (x := .ref as[k.toNat]) hl h0 hfit (by simp [hlt]) (h _ (by simp [hlt]))) hs
theorem tab_val {value slice : PySem.Expr} {Q : Value → Shared → Prop} (N : News h₀ L s.heap news) (TB : Tab kw T as rows) (hsub : ∀ p ∈ rows, p ∈ news) (ha : as[i]? = some a) (h0 : 0 ≤ k) (h1 : k < kw) (hfit : k < 2 ^ 63)
    (h : ∀ t, Q (.int (T i k.toNat) t) s)
    (hs : subscripted slice false (.ref a) (.int k u) = operate [.ref a, .int k u] (getItem (.ref a) (.int k u)) := by with_unfolding_all rfl) :
    wpAny (model prog w) A (subscriptTail value slice (.ref a) (.int k u)) Q E s := by
  obtain ⟨o, ho, cv, n, ns, rfl, hcv, hlen, hval⟩ := TB.row ha
  refine ksa_sub N (hsub _ (List.mem_of_getElem? ho)) hcv h0 (by omega) hfit (fun t => ?_) hs
  rw [hval k.toNat (by omega)]
  exact h t
theorem tab_set {p1 p2 : Addr × Obj} {v : Int} {t u : Tok} {Q : Unit → Shared → Prop} (F : Fr h₀ L s.heap m) (N : News h₀ L s.heap (p1 :: p2 :: (rows ++ own))) (TB : Tab kw T as rows) (nd : as.Nodup) (hap : Apart as (p1 :: p2 :: own)) (ha : as[i]? = some a) (h0 : 0 ≤ k) (h1 : k < kw) (hfit : k < 2 ^ 63)
    (h : ∀ h' rows', Fr h₀ L h' m → News h₀ L h' (p1 :: p2 :: (rows' ++ own)) → Tab kw (fun i' j' => if i' = i ∧ j' = k.toNat then v else T i' j') as rows' → Q () { s with heap := h' }) :
    wpAny (model prog w) A (setItem (.ref a) (.int k t) (.int v u)) Q E s := by
  obtain ⟨o, ho, cv, n, ns, rfl, hcv, hlen, hval⟩ := TB.row ha
  obtain ⟨hi, hg⟩ := List.getElem?_eq_some_iff.mp ho
  have split : rows = rows.take i ++ (a, W.listOf cv.toArray n) :: rows.drop (i + 1) := by
    rw [← hg, List.getElem_cons_drop, List.take_append_drop]
  have nd' := nd
  rw [← TB.1, split, List.map_append, List.map_cons] at nd'
  have nd2 := List.nodup_append.mp nd'
  have nd3 := List.nodup_cons.mp nd2.2.1
  have a1 : ∀ p ∈ p1 :: p2 :: rows.take i, p.1 ≠ a := by
    intro p hp
    rcases List.mem_cons.mp hp with rfl | hp
    · exact hap a (List.mem_of_getElem? ha) _ (.head _)
    rcases List.mem_cons.mp hp with rfl | hp
    · exact hap a (List.mem_of_getElem? ha) _ (.tail _ (.head _))
    · exact nd2.2.2 p.1 (List.mem_map.mpr ⟨p, hp, rfl⟩) a (.head _)
  have a2 : ∀ p ∈ rows.drop (i + 1) ++ own, p.1 ≠ a := by
    intro p hp
    rcases List.mem_append.mp hp with hp | hp
    · intro e
      exact nd3.1 (List.mem_map.mpr ⟨p, hp, e⟩)
    · exact hap a (List.mem_of_getElem? ha) _ (.tail _ (.tail _ hp))
  have N2 : News h₀ L s.heap ((p1 :: p2 :: rows.take i) ++ (a, W.listOf cv.toArray n) :: (rows.drop (i + 1) ++ own)) := by
    have e : (p1 :: p2 :: rows.take i) ++ (a, W.listOf cv.toArray n) :: (rows.drop (i + 1) ++ own) = p1 :: p2 :: (rows ++ own) := by
      conv => rhs; rw [split]
      simp
    rw [e]; exact N
  have U : Upd a (W.listOf cv.toArray n) (W.listOf (cv.set k.toNat (.int v u)).toArray n) ((p1 :: p2 :: rows.take i) ++ (a, W.listOf cv.toArray n) :: (rows.drop (i + 1) ++ own)) ((p1 :: p2 :: rows.take i) ++ (a, W.listOf (cv.set k.toNat (.int v u)).toArray n) :: (rows.drop (i + 1) ++ own)) := by
    have key : ∀ l : List (Addr × Obj), (∀ p ∈ l, p.1 ≠ a) → Upd a (W.listOf cv.toArray n) (W.listOf (cv.set k.toNat (.int v u)).toArray n) (l ++ (a, W.listOf cv.toArray n) :: (rows.drop (i + 1) ++ own)) (l ++ (a, W.listOf (cv.set k.toNat (.int v u)).toArray n) :: (rows.drop (i + 1) ++ own)) := by
      intro l
      induction l with
      | nil => intro _; exact Upd.head a2
      | cons p l ih => intro hl; exact Upd.tail (hl p (.head _)) (ih fun q hq => hl q (.tail _ hq))
    exact key _ a1
  refine ksa_set F N2 U hcv h0 (by omega) hfit fun h' F' N' hi' _ _ => ?_
  refine h h' (rows.set i (a, W.listOf (cv.set k.toNat (.int v u)).toArray n)) F' ?_ ?_
  · have e : p1 :: p2 :: (rows.set i (a, W.listOf (cv.set k.toNat (.int v u)).toArray n) ++ own) = (p1 :: p2 :: rows.take i) ++ (a, W.listOf (cv.set k.toNat (.int v u)).toArray n) :: (rows.drop (i + 1) ++ own) := by
      rw [List.set_eq_take_append_cons_drop, if_pos hi]
      simp
    rw [e]; exact N'
  · refine ⟨?_, fun i' p hp => ?_⟩
    · rw [List.map_set, TB.1]
      refine List.ext_getElem? fun j => ?_
      rw [List.getElem?_set]
      by_cases e : i = j
      · subst e
        have : i < as.length := (List.getElem?_eq_some_iff.mp ha).1
        rw [if_pos rfl, if_pos this, ha]
      · rw [if_neg e]
    · rw [List.getElem?_set] at hp
      by_cases e : i = i'
      · subst e
        rw [if_pos rfl, if_pos hi] at hp
        obtain rfl := Option.some.inj hp
        refine ⟨_, _, _, rfl, hi', by rw [List.length_set]; exact hlen, fun j hj => ?_⟩
        rw [getD_set (by omega)]
        show _ = if i = i ∧ j = k.toNat then v else T i j
        by_cases e2 : j = k.toNat
        · rw [if_pos e2, if_pos ⟨rfl, e2⟩]
        · rw [if_neg e2, if_neg (fun c : i = i ∧ j = k.toNat => e2 c.2), hval j hj]
      · rw [if_neg e] at hp
        obtain ⟨cv', n', ns', e1, hc', hl', hv'⟩ := TB.2 i' p hp
        refine ⟨cv', n', ns', e1, hc', hl', fun j hj => ?_⟩
        rw [hv' j hj]
        show T i' j = if i' = i ∧ j = k.toNat then v else T i' j
        rw [if_neg (fun c : i' = i ∧ j = k.toNat => e c.1.symm)]
end
/-- the longest common subsequence's length of the beginnings -/
def lcs (q : Nat → Nat → Bool) : Nat → Nat → Nat
  | 0, _ => 0
  | _ + 1, 0 => 0
  | i + 1, j + 1 => if q i j then lcs q i j + 1 else max (lcs q (i + 1) j) (lcs q i (j + 1))
theorem lcs_zero (q : Nat → Nat → Bool) (j : Nat) : lcs q 0 j = 0 := by unfold lcs; rfl
theorem lcs_left (q : Nat → Nat → Bool) (i : Nat) : lcs q i 0 = 0 := by cases i <;> (unfold lcs; rfl)
theorem lcs_step (q : Nat → Nat → Bool) (i j : Nat) : lcs q (i + 1) (j + 1) = if q i j then lcs q i j + 1 else max (lcs q (i + 1) j) (lcs q i (j + 1)) := by
  conv => lhs; unfold lcs
theorem lcs_le (q : Nat → Nat → Bool) : ∀ n i j : Nat, i + j ≤ n → lcs q i j ≤ i ∧ lcs q i j ≤ j := by
  intro n
  induction n with
  | zero =>
    intro i j h
    obtain rfl : i = 0 := by omega
    rw [lcs_zero]; omega
  | succ n ih =>
    intro i j h
    cases i with
    | zero => rw [lcs_zero]; omega
    | succ i =>
      cases j with
      | zero => rw [lcs_left]; omega
      | succ j =>
        rw [lcs_step]
        have h1 := ih i j (by omega)
        have h2 := ih (i + 1) j (by omega)
        have h3 := ih i (j + 1) (by omega)
        split
        · omega
        · omega
/-- how far the table is filled -/
def part (q : Nat → Nat → Bool) (i k : Nat) (a b : Nat) : Int := if a ≤ i ∨ (a = i + 1 ∧ b ≤ k) then lcs q a b else 0
theorem part_zero {q : Nat → Nat → Bool} {a b : Nat} : part q 0 0 a b = 0 := by
  unfold part
  split
  · rename_i h
    rcases h with h | ⟨h, h2⟩
    · obtain rfl : a = 0 := by omega
      rw [lcs_zero]; rfl
    · obtain rfl : b = 0 := by omega
      rw [lcs_left]; rfl
  · rfl
theorem part_next {q : Nat → Nat → Bool} {i m a b : Nat} (hb : b < m + 1) : part q i m a b = part q (i + 1) 0 a b := by
  unfold part
  by_cases h : a ≤ i ∨ (a = i + 1 ∧ b ≤ m)
  · rw [if_pos h, if_pos (by omega)]
  · rw [if_neg h]
    by_cases h2 : a ≤ i + 1 ∨ (a = i + 1 + 1 ∧ b ≤ 0)
    · rw [if_pos h2]
      obtain rfl : b = 0 := by omega
      rw [lcs_left]; rfl
    · rw [if_neg h2]
theorem part_step {q : Nat → Nat → Bool} {i k a b : Nat} {v : Int} (hv : v = lcs q (i + 1) (k + 1)) : (if a = i + 1 ∧ b = k + 1 then v else part q i k a b) = part q i (k + 1) a b := by
  unfold part
  by_cases h : a = i + 1 ∧ b = k + 1
  · obtain ⟨rfl, rfl⟩ := h
    rw [if_pos ⟨rfl, rfl⟩, if_pos (by omega), hv]
  · rw [if_neg h]
    by_cases h2 : a ≤ i ∨ (a = i + 1 ∧ b ≤ k)
    · rw [if_pos h2, if_pos (by omega)]
    · rw [if_neg h2, if_neg (by omega)]
theorem part_read {q : Nat → Nat → Bool} {i k a b : Nat} (h : a ≤ i ∨ (a = i + 1 ∧ b ≤ k)) : part q i k a b = lcs q a b := by
  unfold part; rw [if_pos h]
end Mine
namespace Mine
theorem news_sub {h₀ h : Heap} {L : Addr} {news news' : List (Addr × Obj)} (N : News h₀ L h news) (hs : ∀ p ∈ news', p ∈ news) : News h₀ L h news' := fun p hp => N p (hs p hp)
/-- an end of a list -/
inductive Tail {α : Type} : List α → List α → Prop
  | rfl {l : List α} : Tail l l
  | tail {l r : List α} (a : α) : Tail l r → Tail (a :: l) r
theorem Tail.mem {α : Type} {l r : List α} (h : Tail l r) : ∀ p ∈ r, p ∈ l := by
  induction h with
  | rfl => exact fun _ h => h
  | tail a _ ih => exact fun p hp => .tail _ (ih p hp)
theorem news_tail {h₀ h : Heap} {L : Addr} {news news' : List (Addr × Obj)} (N : News h₀ L h news) (hs : Tail news news') : News h₀ L h news' := news_sub N hs.mem
theorem flat_rep (n : Nat) : (List.replicate n [(0 : Int)]).flatten = List.replicate n 0 := by
  induction n with
  | zero => rfl
  | succ n ih => rw [List.replicate_succ, List.replicate_succ, List.flatten_cons, ih]; rfl
theorem flat_zero {n j : Nat} (_ : j < n) : (List.replicate n [(0 : Int)]).flatten.getD j 0 = 0 := by
  rw [flat_rep, List.getD_eq_getElem?_getD, List.getElem?_replicate]
  split <;> rfl
theorem table_in {D : Addr} {c : Addr × Obj} (rows : List (Addr × Obj)) : ∀ p ∈ (D, LCg.lst ((rows.map (·.1)).map Value.ref)) :: c :: rows, p ∈ (D, LCg.lst (refsOf rows)) :: ([c] ++ rows.reverse) := by
  have e : (rows.map (·.1)).map Value.ref = refsOf rows := by simp [refsOf]
  rw [e]
  intro p hp
  simp only [List.mem_cons, List.cons_append, List.nil_append, List.mem_reverse] at hp ⊢
  exact hp
theorem table_apart {D : Addr} {c : Addr × Obj} {o : Obj} {rows : List (Addr × Obj)} {as : List Addr} (has : as = rows.map (·.1)) (hne : ∀ p ∈ rows, ∀ q ∈ [c], q.1 ≠ p.1) (off : LCg.Off1 D ([c] ++ rows.reverse)) : Apart as [(D, o), c] ∧ @Ne Nat c.1 D := by
  subst has
  refine ⟨fun a ha q hq => ?_, off.1⟩
  obtain ⟨p, hp, rfl⟩ := List.mem_map.mp ha
  rcases List.mem_cons.mp hq with rfl | hq
  · exact fun e => off1_mem off.2 p (List.mem_reverse.mpr hp) e.symm
  · rw [List.mem_singleton.mp hq]
    exact hne p hp c (.head _)
where
  off1_mem {D : Addr} : ∀ {l : List (Addr × Obj)}, LCg.Off1 D l → ∀ p ∈ l, p.1 ≠ D
    | [], _, _, h => nomatch h
    | _ :: _, x, p, h => by
      rcases List.mem_cons.mp h with rfl | h
      · exact x.1
      · exact off1_mem x.2 p h
end Mine
namespace Mine
theorem table_own {p1 p2 : Addr × Obj} {rows : List (Addr × Obj)} (own : List (Addr × Obj)) : ∀ p ∈ p1 :: p2 :: (rows ++ own), p ∈ own ++ (p1 :: p2 :: rows) := by
  intro p hp
  simp only [List.mem_cons, List.mem_append] at hp ⊢
  rcases hp with hp | hp | hp | hp
  · exact .inr (.inl hp)
  · exact .inr (.inr (.inl hp))
  · exact .inr (.inr (.inr hp))
  · exact .inl hp
theorem table_back {p1 p2 : Addr × Obj} {rows : List (Addr × Obj)} (own : List (Addr × Obj)) : ∀ p ∈ own ++ (p1 :: p2 :: rows), p ∈ p1 :: p2 :: (rows ++ own) := by
  intro p hp
  simp only [List.mem_cons, List.mem_append] at hp ⊢
  rcases hp with hp | hp | hp | hp
  · exact .inr (.inr (.inr hp))
  · exact .inl hp
  · exact .inr (.inl hp)
  · exact .inr (.inr (.inl hp))
end Mine
namespace Mine
theorem table_own2 {p1 p2 : Addr × Obj} {rows : List (Addr × Obj)} (own own2 : List (Addr × Obj)) : ∀ p ∈ p1 :: p2 :: (rows ++ (own ++ own2)), p ∈ own2 ++ (p1 :: p2 :: (rows ++ own)) := by
  intro p hp
  simp only [List.mem_cons, List.mem_append] at hp ⊢
  rcases hp with hp | hp | hp | hp | hp
  · exact .inr (.inl hp)
  · exact .inr (.inr (.inl hp))
  · exact .inr (.inr (.inr (.inl hp)))
  · exact .inr (.inr (.inr (.inr hp)))
  · exact .inl hp
theorem table_back2 {p1 p2 : Addr × Obj} {rows : List (Addr × Obj)} (own own2 : List (Addr × Obj)) : ∀ p ∈ own2 ++ (p1 :: p2 :: (rows ++ own)), p ∈ p1 :: p2 :: (rows ++ (own ++ own2)) := by
  intro p hp
  simp only [List.mem_cons, List.mem_append] at hp ⊢
  rcases hp with hp | hp | hp | hp | hp
  · exact .inr (.inr (.inr (.inr hp)))
  · exact .inl hp
  · exact .inr (.inl hp)
  · exact .inr (.inr (.inl hp))
  · exact .inr (.inr (.inr (.inl hp)))
theorem apart_own {as : List Addr} {p1 p2 : Addr × Obj} {rows own : List (Addr × Obj)} (h : rows.map (·.1) = as) (ho : ∀ p ∈ own, ∀ q ∈ p1 :: p2 :: rows, p.1 ≠ q.1) : Apart as own := by
  subst h
  intro a ha q hq
  obtain ⟨p, hp, rfl⟩ := List.mem_map.mp ha
  exact ho q hq p (.tail _ (.tail _ hp))
theorem apart_own2 {as : List Addr} {p1 p2 : Addr × Obj} {rows own own2 : List (Addr × Obj)} (h : rows.map (·.1) = as) (ho : ∀ p ∈ own2, ∀ q ∈ p1 :: p2 :: (rows ++ own), p.1 ≠ q.1) : Apart as own2 := by
  subst h
  intro a ha q hq
  obtain ⟨p, hp, rfl⟩ := List.mem_map.mp ha
  exact ho q hq p (.tail _ (.tail _ (List.mem_append_left _ hp)))
theorem apart_all {as : List Addr} {p1 p2 : Addr × Obj} {own own2 : List (Addr × Obj)} (h1 : Apart as [p1, p2]) (h2 : Apart as own) (h3 : Apart as own2) : Apart as (p1 :: p2 :: (own ++ own2)) := by
  intro a ha q hq
  simp only [List.mem_cons, List.mem_append] at hq
  rcases hq with hq | hq | hq | hq
  · exact h1 a ha q (hq ▸ .head _)
  · exact h1 a ha q (hq ▸ .tail _ (.head _))
  · exact h2 a ha q hq
  · exact h3 a ha q hq
theorem rows_in {p1 p2 : Addr × Obj} {rows own : List (Addr × Obj)} : ∀ p ∈ rows, p ∈ p1 :: p2 :: (rows ++ own) := fun _ hp => .tail _ (.tail _ (List.mem_append_left _ hp))
end Mine
namespace Mine
theorem dy_like {q : Nat → Nat → Bool} {i k kw : Nat} {as : List Addr} {rows : List (Addr × Obj)} (h : q i k = true)
    (TB : Tab kw (fun i' j' => if i' = ((i : Int) + 1).toNat ∧ j' = ((k : Int) + 1).toNat then part q i k (i : Int).toNat (k : Int).toNat + 1 else part q i k i' j') as rows) : Tab kw (part q i (k + 1)) as rows := by
  refine TB.congr fun a _ b _ => ?_
  rw [show ((i : Int) + 1).toNat = i + 1 from by omega, show ((k : Int) + 1).toNat = k + 1 from by omega, Int.toNat_natCast, Int.toNat_natCast]
  refine part_step ?_
  rw [part_read (.inl (Nat.le_refl _)), lcs_step, if_pos h]
  rfl
theorem dy_unlike {q : Nat → Nat → Bool} {i k kw : Nat} {as : List Addr} {rows : List (Addr × Obj)} (h : q i k = false)
    (TB : Tab kw (fun i' j' => if i' = ((i : Int) + 1).toNat ∧ j' = ((k : Int) + 1).toNat then max (part q i k ((i : Int) + 1).toNat (k : Int).toNat) (part q i k (i : Int).toNat ((k : Int) + 1).toNat) else part q i k i' j') as rows) : Tab kw (part q i (k + 1)) as rows := by
  refine TB.congr fun a _ b _ => ?_
  rw [show ((i : Int) + 1).toNat = i + 1 from by omega, show ((k : Int) + 1).toNat = k + 1 from by omega, Int.toNat_natCast, Int.toNat_natCast]
  refine part_step ?_
  rw [part_read (.inl (Nat.le_refl _)), part_read (.inr ⟨rfl, Nat.le_refl _⟩), lcs_step, if_neg (by simp [h])]
  omega
theorem same_own {as : List Addr} {p1 p2 : Addr × Obj} {rows rows' own : List (Addr × Obj)} (h : rows.map (·.1) = as) (h' : rows'.map (·.1) = as) : (p1 :: p2 :: (rows ++ own)).map (·.1) = (p1 :: p2 :: (rows' ++ own)).map (·.1) := by
  simp only [List.map_cons, List.map_append, h, h']
theorem same_rows {as : List Addr} {p1 p2 : Addr × Obj} {rows rows' : List (Addr × Obj)} (h : rows.map (·.1) = as) (h' : rows'.map (·.1) = as) : (p1 :: p2 :: rows).map (·.1) = (p1 :: p2 :: rows').map (·.1) := by
  simp only [List.map_cons, h, h']
end Mine
namespace Mine
theorem rows_in0 {p1 p2 : Addr × Obj} {rows : List (Addr × Obj)} : ∀ p ∈ rows, p ∈ p1 :: p2 :: rows := fun _ hp => .tail _ (.tail _ hp)
end Mine
namespace Mine
theorem bt_up {q : Nat → Nat → Bool} {n i j : Nat} (hi : i ≤ n) (i0 : (i : Int) ≠ 0) (h : part q n 0 (i : Int).toNat (j : Int).toNat = part q n 0 ((i : Int) - 1).toNat (j : Int).toNat) : lcs q i j = lcs q (i - 1) j := by
  rw [show ((i : Int) - 1).toNat = i - 1 from by omega, Int.toNat_natCast, Int.toNat_natCast, part_read (.inl hi), part_read (.inl (by omega))] at h
  omega
theorem bt_left {q : Nat → Nat → Bool} {n i j : Nat} (j0 : (j : Int) ≠ 0) (hi : i ≤ n) (h : part q n 0 (i : Int).toNat (j : Int).toNat = part q n 0 (i : Int).toNat ((j : Int) - 1).toNat) : lcs q i j = lcs q i (j - 1) := by
  rw [show ((j : Int) - 1).toNat = j - 1 from by omega, Int.toNat_natCast, Int.toNat_natCast, part_read (.inl hi), part_read (.inl hi)] at h
  omega
theorem bt_diag {x y : Str} {n i j : Nat} (i0 : (i : Int) ≠ 0) (j0 : (j : Int) ≠ 0) (hi : i ≤ n) (h1 : part (like x y) n 0 (i : Int).toNat (j : Int).toNat ≠ part (like x y) n 0 ((i : Int) - 1).toNat (j : Int).toNat)
    (h2 : part (like x y) n 0 (i : Int).toNat (j : Int).toNat ≠ part (like x y) n 0 (i : Int).toNat ((j : Int) - 1).toNat) : Txt.item x ((i : Int) - 1) = Txt.item y ((j : Int) - 1) ∧ lcs (like x y) i j = lcs (like x y) (i - 1) (j - 1) + 1 := by
  rw [show ((i : Int) - 1).toNat = i - 1 from by omega, Int.toNat_natCast, Int.toNat_natCast, part_read (.inl hi), part_read (.inl (by omega))] at h1
  rw [show ((j : Int) - 1).toNat = j - 1 from by omega, Int.toNat_natCast, Int.toNat_natCast, part_read (.inl hi), part_read (.inl hi)] at h2
  obtain ⟨a, rfl⟩ : ∃ a, i = a + 1 := ⟨i - 1, by omega⟩
  obtain ⟨b, rfl⟩ : ∃ b, j = b + 1 := ⟨j - 1, by omega⟩
  simp only [Nat.add_sub_cancel] at h1 h2 ⊢
  have e := lcs_step (like x y) a b
  by_cases hl : like x y a b = true
  · rw [if_pos hl] at e
    refine ⟨?_, e⟩
    rw [show ((a + 1 : Nat) : Int) - 1 = a from by omega, show ((b + 1 : Nat) : Int) - 1 = b from by omega]
    unfold like at hl
    simpa using hl
  · rw [if_neg hl] at e
    omega
end Mine
end
-- P3
section
open PySem PySem.W PySem.Calls PyProof.Rows
namespace Mine
/-- the number of changes: a change of a letter costs one, or is a step off and a step on -/
def ed (c : Bool) (q : Nat → Nat → Bool) : Nat → Nat → Nat
  | 0, j => j
  | i + 1, 0 => i + 1
  | i + 1, j + 1 => min (min (ed c q i j + if q i j then 0 else if c then 1 else 2) (ed c q i (j + 1) + 1)) (ed c q (i + 1) j + 1)
section
variable (c : Bool) (q : Nat → Nat → Bool)
theorem ed_zero (j : Nat) : ed c q 0 j = j := by unfold ed; rfl
theorem ed_left (i : Nat) : ed c q i 0 = i := by cases i <;> (unfold ed; rfl)
theorem ed_step (i j : Nat) : ed c q (i + 1) (j + 1) = min (min (ed c q i j + if q i j then 0 else if c then 1 else 2) (ed c q i (j + 1) + 1)) (ed c q (i + 1) j + 1) := by
  conv => lhs; unfold ed
theorem ed_up (i j : Nat) : ed c q (i + 1) j ≤ ed c q i j + 1 := by
  cases j with
  | zero => rw [ed_left, ed_left]; omega
  | succ j => rw [ed_step]; omega
theorem ed_right (i j : Nat) : ed c q i (j + 1) ≤ ed c q i j + 1 := by
  cases i with
  | zero => rw [ed_zero, ed_zero]; omega
  | succ i => rw [ed_step]; omega
theorem ed_back : ∀ n i j : Nat, i + j ≤ n → ed c q i j ≤ ed c q (i + 1) j + 1 ∧ ed c q i j ≤ ed c q i (j + 1) + 1 ∧ ed c q i j ≤ ed c q (i + 1) (j + 1) := by
  intro n
  induction n with
  | zero =>
    intro i j h
    obtain rfl : i = 0 := by omega
    obtain rfl : j = 0 := by omega
    rw [ed_zero]; omega
  | succ n ih =>
    intro i j h
    have a : ed c q i j ≤ ed c q (i + 1) j + 1 := by
      cases j with
      | zero => rw [ed_left, ed_left]; omega
      | succ j =>
        have e := ed_step c q i j
        have b1 := (ih i j (by omega)).2.1
        have b2 := ed_right c q i j
        have b3 := (ih i j (by omega)).1
        omega
    have b : ed c q i j ≤ ed c q i (j + 1) + 1 := by
      cases i with
      | zero => rw [ed_zero, ed_zero]; omega
      | succ i =>
        have e := ed_step c q i j
        have b1 := (ih i j (by omega)).1
        have b2 := ed_up c q i j
        have b3 := (ih i j (by omega)).2.1
        omega
    refine ⟨a, b, ?_⟩
    have e := ed_step c q i j
    omega
theorem ed_down (i j : Nat) : ed c q i j ≤ ed c q (i + 1) j + 1 := (ed_back c q _ i j (Nat.le_refl _)).1
theorem ed_less (i j : Nat) : ed c q i j ≤ ed c q i (j + 1) + 1 := (ed_back c q _ i j (Nat.le_refl _)).2.1
theorem ed_diag (i j : Nat) : ed c q i j ≤ ed c q (i + 1) (j + 1) := (ed_back c q _ i j (Nat.le_refl _)).2.2
theorem ed_along (k i j : Nat) : ed c q i j ≤ ed c q (i + k) (j + k) := by
  induction k with
  | zero => exact Nat.le_refl _
  | succ k ih => exact Nat.le_trans ih (ed_diag c q (i + k) (j + k))
theorem ed_same {i j : Nat} (h : q i j = true) : ed c q (i + 1) (j + 1) = ed c q i j := by
  have e := ed_step c q i j
  rw [h] at e
  have := ed_diag c q i j
  simp at e
  omega
theorem ed_other {i j : Nat} (h : q i j = false) : ed c q (i + 1) (j + 1) = ed c q i (j + 1) + 1 ∨ ed c q (i + 1) (j + 1) = ed c q (i + 1) j + 1 ∨ (c = true ∧ ed c q (i + 1) (j + 1) = ed c q i j + 1) := by
  have e := ed_step c q i j
  have a := ed_right c q i j
  rw [h] at e
  cases c <;> simp at e ⊢ <;> omega
theorem ed_cross {i j : Nat} (h : c = true) : ed c q (i + 1) (j + 1) ≤ ed c q i j + 1 := by
  have e := ed_step c q i j
  subst h
  cases hq : q i j <;> rw [hq] at e <;> simp at e <;> omega
theorem ed_gap : ∀ n i j : Nat, i + j ≤ n → i ≤ ed c q i j + j ∧ j ≤ ed c q i j + i ∧ ed c q i j ≤ i + j := by
  intro n
  induction n with
  | zero =>
    intro i j h
    obtain rfl : i = 0 := by omega
    rw [ed_zero]; omega
  | succ n ih =>
    intro i j h
    cases i with
    | zero => rw [ed_zero]; omega
    | succ i =>
      cases j with
      | zero => rw [ed_left]; omega
      | succ j =>
        have e := ed_step c q i j
        have h1 := ih i j (by omega)
        have h2 := ih (i + 1) j (by omega)
        have h3 := ih i (j + 1) (by omega)
        omega
theorem ed_even : ∀ n i j : Nat, i + j ≤ n → (ed false q i j + i + j) % 2 = 0 := by
  intro n
  induction n with
  | zero =>
    intro i j h
    obtain rfl : i = 0 := by omega
    rw [ed_zero]; omega
  | succ n ih =>
    intro i j h
    cases i with
    | zero => rw [ed_zero]; omega
    | succ i =>
      cases j with
      | zero => rw [ed_left]; omega
      | succ j =>
        have e := ed_step false q i j
        have h1 := ih i j (by omega)
        have h2 := ih (i + 1) j (by omega)
        have h3 := ih i (j + 1) (by omega)
        cases hq : q i j <;> rw [hq] at e <;> simp at e <;> omega
theorem ed_dist : ∀ n i j : Nat, i + j ≤ n → ed true q i j = dist q i j := by
  intro n
  induction n with
  | zero =>
    intro i j h
    obtain rfl : i = 0 := by omega
    rw [ed_zero, dist_zero]
  | succ n ih =>
    intro i j h
    cases i with
    | zero => rw [ed_zero, dist_zero]
    | succ i =>
      cases j with
      | zero => rw [ed_left, dist_left]
      | succ j =>
        have h1 := ih i j (by omega)
        have h2 := ih (i + 1) j (by omega)
        have h3 := ih i (j + 1) (by omega)
        rw [ed_step, dist_step, h1, h2, h3]
        cases q i j <;> simp
theorem ed_lcs : ∀ n i j : Nat, i + j ≤ n → ed false q i j + 2 * lcs q i j = i + j := by
  intro n
  induction n with
  | zero =>
    intro i j h
    obtain rfl : i = 0 := by omega
    rw [ed_zero, lcs_zero]; omega
  | succ n ih =>
    intro i j h
    cases i with
    | zero => rw [ed_zero, lcs_zero]; omega
    | succ i =>
      cases j with
      | zero => rw [ed_left, lcs_left]
      | succ j =>
        have h1 := ih i j (by omega)
        have h2 := ih (i + 1) j (by omega)
        have h3 := ih i (j + 1) (by omega)
        have e := lcs_step q i j
        cases hq : q i j
        · rw [hq] at e
          simp at e
          rcases ed_other false q hq with g | g | ⟨g, _⟩
          · have := ed_step false q i j
            rw [hq] at this
            simp at this
            omega
          · have := ed_step false q i j
            rw [hq] at this
            simp at this
            omega
          · cases g
        · rw [ed_same false q hq]
          rw [hq] at e
          simp at e
          omega
end
/-- a number of changes and a diagonal that the law keeps a place for -/
abbrev Dom (c : Bool) (n m e : Nat) (d : Int) : Prop := -(e : Int) ≤ d ∧ d ≤ e ∧ -(n : Int) ≤ d ∧ d ≤ m ∧ (c = true ∨ ((e : Int) - d) % 2 = 0)
/-- the furthest place on the diagonal -/
def Fur (c : Bool) (q : Nat → Nat → Bool) (n m e : Nat) (d i : Int) : Prop := ∃ a b : Nat, i = a ∧ i + d = b ∧ a ≤ n ∧ b ≤ m ∧ ed c q a b ≤ e ∧ (a = n ∨ b = m ∨ e < ed c q (a + 1) (b + 1))
theorem Fur.most {c : Bool} {q : Nat → Nat → Bool} {n m e : Nat} {d i : Int} (h : Fur c q n m e d i) {a b : Nat} (hd : (a : Int) + d = b) (ha : a ≤ n) (hb : b ≤ m) (he : ed c q a b ≤ e) : (a : Int) ≤ i := by
  obtain ⟨a', b', rfl, hb', h1, h2, h3, h4⟩ := h
  apply Classical.byContradiction
  intro hlt
  have ea : a = a' + 1 + (a - a' - 1) := by omega
  have eb : b = b' + 1 + (a - a' - 1) := by omega
  have := ed_along c q (a - a' - 1) (a' + 1) (b' + 1)
  rw [← ea, ← eb] at this
  omega
/-- what stands in the last front -/
def Prev (c : Bool) (q : Nat → Nat → Bool) (n m e : Nat) (g : Int → Option Int) : Prop :=
  match e with
  | 0 => ∀ k, g k = none
  | e + 1 => ∀ k, (Dom c n m e k → ∃ i, g k = some i ∧ Fur c q n m e k i) ∧ (¬ Dom c n m e k → g k = none)
def ways (c : Bool) (g : Int → Option Int) (e : Nat) (d : Int) : List Int :=
  (match g (d - 1) with | some i => [i] | none => []) ++ ((match g (d + 1) with | some i => [i + 1] | none => []) ++ ((if c = true then (match g d with | some i => [i + 1] | none => []) else []) ++ (if e = 0 then [0] else [])))
theorem mem_ways {c : Bool} {g : Int → Option Int} {e : Nat} {d w : Int} : w ∈ ways c g e d ↔ g (d - 1) = some w ∨ (∃ i, g (d + 1) = some i ∧ w = i + 1) ∨ (c = true ∧ ∃ i, g d = some i ∧ w = i + 1) ∨ (e = 0 ∧ w = 0) := by
  unfold ways
  simp only [List.mem_append]
  have l1 : (w ∈ (match g (d - 1) with | some i => [i] | none => [])) ↔ g (d - 1) = some w := by
    cases g (d - 1) <;> simp [eq_comm]
  have l2 : (w ∈ (match g (d + 1) with | some i => [i + 1] | none => [])) ↔ ∃ i, g (d + 1) = some i ∧ w = i + 1 := by
    cases g (d + 1) <;> simp
  have l3 : (w ∈ (if c = true then (match g d with | some i => [i + 1] | none => []) else [])) ↔ (c = true ∧ ∃ i, g d = some i ∧ w = i + 1) := by
    cases c <;> cases g d <;> simp
  have l4 : (w ∈ (if e = 0 then [(0 : Int)] else [])) ↔ (e = 0 ∧ w = 0) := by
    by_cases h : e = 0 <;> simp [h]
  rw [l1, l2, l3, l4]
/-- each way leads to a place in reach -/
theorem ways_sound {c : Bool} {q : Nat → Nat → Bool} {n m e : Nat} {g : Int → Option Int} {d w : Int} (P : Prev c q n m e g) (h1 : -(n : Int) ≤ d) (h2 : d ≤ m) (h3 : -(e : Int) ≤ d) (h4 : d ≤ e) (hw : w ∈ ways c g e d) :
    ∃ a b : Nat, min (min w n) (m - d) = a ∧ (a : Int) + d = b ∧ a ≤ n ∧ b ≤ m ∧ ed c q a b ≤ e := by
  rcases mem_ways.mp hw with hg | ⟨i, hg, rfl⟩ | ⟨hc, i, hg, rfl⟩ | ⟨rfl, rfl⟩
  · cases e with
    | zero => rw [P (d - 1)] at hg; cases hg
    | succ e =>
      by_cases hD : Dom c n m e (d - 1)
      · obtain ⟨i, hi, a, b, rfl, hb, ha, hbm, hed, _⟩ := (P (d - 1)).1 hD
        rw [hi] at hg
        obtain rfl := Option.some.inj hg
        by_cases hbm2 : b = m
        · refine ⟨a - 1, m, by omega, by omega, by omega, Nat.le_refl _, ?_⟩
          have := ed_down c q (a - 1) m
          rw [show a - 1 + 1 = a from by omega] at this
          rw [hbm2] at hed
          omega
        · refine ⟨a, b + 1, by omega, by omega, ha, by omega, ?_⟩
          have := ed_right c q a b
          omega
      · rw [(P (d - 1)).2 hD] at hg; cases hg
  · cases e with
    | zero => rw [P (d + 1)] at hg; cases hg
    | succ e =>
      by_cases hD : Dom c n m e (d + 1)
      · obtain ⟨i', hi, a, b, rfl, hb, ha, hbm, hed, _⟩ := (P (d + 1)).1 hD
        rw [hi] at hg
        obtain rfl := Option.some.inj hg
        by_cases han : a = n
        · refine ⟨n, b - 1, by omega, by omega, Nat.le_refl _, by omega, ?_⟩
          have := ed_less c q n (b - 1)
          rw [show b - 1 + 1 = b from by omega] at this
          rw [han] at hed
          omega
        · refine ⟨a + 1, b, by omega, by omega, by omega, hbm, ?_⟩
          have := ed_up c q a b
          omega
      · rw [(P (d + 1)).2 hD] at hg; cases hg
  · cases e with
    | zero => rw [P d] at hg; cases hg
    | succ e =>
      by_cases hD : Dom c n m e d
      · obtain ⟨i', hi, a, b, rfl, hb, ha, hbm, hed, _⟩ := (P d).1 hD
        rw [hi] at hg
        obtain rfl := Option.some.inj hg
        by_cases hcl : a = n ∨ b = m
        · refine ⟨a, b, by omega, hb, ha, hbm, by omega⟩
        · refine ⟨a + 1, b + 1, by omega, by omega, by omega, by omega, ?_⟩
          have := ed_cross c q (i := a) (j := b) hc
          omega
      · rw [(P d).2 hD] at hg; cases hg
  · refine ⟨0, 0, by omega, by omega, by omega, by omega, ?_⟩
    rw [ed_zero]; omega
/-- a place in reach behind an unlike pair is led to by a way -/
theorem ways_full {c : Bool} {q : Nat → Nat → Bool} {n m e a b : Nat} {g : Int → Option Int} {d : Int} (P : Prev c q n m e g) (hD : Dom c n m e d) (hd : (a : Int) + d = b) (ha : a < n) (hb : b < m) (hq : q a b = false) (he : ed c q (a + 1) (b + 1) ≤ e) :
    ∃ w ∈ ways c g e d, (a : Int) + 1 ≤ w := by
  cases e with
  | zero =>
    rcases ed_other c q hq with h | h | ⟨_, h⟩ <;> omega
  | succ e =>
    obtain ⟨d1, d2, d3, d4, d5⟩ := hD
    rcases ed_other c q hq with h | h | ⟨hc, h⟩
    · have hg := ed_gap c q _ a (b + 1) (Nat.le_refl _)
      have hD' : Dom c n m e (d + 1) := ⟨by omega, by omega, by omega, by omega, by rcases d5 with d5 | d5; exact .inl d5; exact .inr (by omega)⟩
      obtain ⟨i, hi, hf⟩ := (P (d + 1)).1 hD'
      have := hf.most (a := a) (b := b + 1) (by omega) (by omega) (by omega) (by omega)
      exact ⟨i + 1, mem_ways.mpr (.inr (.inl ⟨i, hi, rfl⟩)), by omega⟩
    · have hg := ed_gap c q _ (a + 1) b (Nat.le_refl _)
      have hD' : Dom c n m e (d - 1) := ⟨by omega, by omega, by omega, by omega, by rcases d5 with d5 | d5; exact .inl d5; exact .inr (by omega)⟩
      obtain ⟨i, hi, hf⟩ := (P (d - 1)).1 hD'
      have := hf.most (a := a + 1) (b := b) (by omega) (by omega) (by omega) (by omega)
      exact ⟨i, mem_ways.mpr (.inl hi), by omega⟩
    · have hg := ed_gap c q _ a b (Nat.le_refl _)
      have hD' : Dom c n m e d := ⟨by omega, by omega, by omega, by omega, .inl hc⟩
      obtain ⟨i, hi, hf⟩ := (P d).1 hD'
      have := hf.most (a := a) (b := b) hd (by omega) (by omega) (by omega)
      exact ⟨i + 1, mem_ways.mpr (.inr (.inr (.inl ⟨hc, i, hi, rfl⟩))), by omega⟩
/-- just the diagonals of the law have a way -/
theorem ways_dom {c : Bool} {q : Nat → Nat → Bool} {n m e : Nat} {g : Int → Option Int} {d : Int} (P : Prev c q n m e g) (h1 : -(n : Int) ≤ d) (h2 : d ≤ m) (h3 : -(e : Int) ≤ d) (h4 : d ≤ e) (hn : e ≤ n + m) : ways c g e d ≠ [] ↔ Dom c n m e d := by
  constructor
  · intro h
    obtain ⟨w, hw⟩ := List.exists_mem_of_ne_nil _ h
    refine ⟨h3, h4, h1, h2, ?_⟩
    rcases mem_ways.mp hw with hg | ⟨i, hg, _⟩ | ⟨hc, _⟩ | ⟨rfl, _⟩
    · cases e with
      | zero => rw [P (d - 1)] at hg; cases hg
      | succ e =>
        by_cases hD : Dom c n m e (d - 1)
        · rcases hD.2.2.2.2 with h | h
          · exact .inl h
          · exact .inr (by omega)
        · rw [(P (d - 1)).2 hD] at hg; cases hg
    · cases e with
      | zero => rw [P (d + 1)] at hg; cases hg
      | succ e =>
        by_cases hD : Dom c n m e (d + 1)
        · rcases hD.2.2.2.2 with h | h
          · exact .inl h
          · exact .inr (by omega)
        · rw [(P (d + 1)).2 hD] at hg; cases hg
    · exact .inl hc
    · exact .inr (by omega)
  · rintro ⟨_, _, _, _, h5⟩
    cases e with
    | zero =>
      exact List.ne_nil_of_mem (mem_ways.mpr (.inr (.inr (.inr ⟨rfl, rfl⟩))))
    | succ e =>
      by_cases hm : 1 ≤ d
      · have hD : Dom c n m e (d - 1) := ⟨by omega, by omega, by omega, by omega, by rcases h5 with h | h; exact .inl h; exact .inr (by omega)⟩
        obtain ⟨i, hi, _⟩ := (P (d - 1)).1 hD
        exact List.ne_nil_of_mem (mem_ways.mpr (.inl hi))
      · by_cases hm2 : d ≤ -1
        · have hD : Dom c n m e (d + 1) := ⟨by omega, by omega, by omega, by omega, by rcases h5 with h | h; exact .inl h; exact .inr (by omega)⟩
          obtain ⟨i, hi, _⟩ := (P (d + 1)).1 hD
          exact List.ne_nil_of_mem (mem_ways.mpr (.inr (.inl ⟨i, hi, rfl⟩)))
        · obtain rfl : d = 0 := by omega
          rcases h5 with h | h
          · have hD : Dom c n m e 0 := ⟨by omega, by omega, by omega, by omega, .inl h⟩
            obtain ⟨i, hi, _⟩ := (P 0).1 hD
            exact List.ne_nil_of_mem (mem_ways.mpr (.inr (.inr (.inl ⟨h, i, hi, rfl⟩))))
          · by_cases hn1 : 1 ≤ m
            · have hD : Dom c n m e (0 + 1) := ⟨by omega, by omega, by omega, by omega, .inr (by omega)⟩
              obtain ⟨i, hi, _⟩ := (P (0 + 1)).1 hD
              exact List.ne_nil_of_mem (mem_ways.mpr (.inr (.inl ⟨i, hi, rfl⟩)))
            · have hD : Dom c n m e (0 - 1) := ⟨by omega, by omega, by omega, by omega, .inr (by omega)⟩
              obtain ⟨i, hi, _⟩ := (P (0 - 1)).1 hD
              exact List.ne_nil_of_mem (mem_ways.mpr (.inl hi))
/-- the place where the slide ends is the furthest -/
theorem slide_end {c : Bool} {q : Nat → Nat → Bool} {n m e a b : Nat} {g : Int → Option Int} {d w : Int} (P : Prev c q n m e g) (hD : Dom c n m e d) (hw : ∀ v ∈ ways c g e d, v ≤ w) (hd : (a : Int) + d = b) (ha : a ≤ n) (hb : b ≤ m) (he : ed c q a b ≤ e) (h0 : min (min w n) (m - d) ≤ a)
    (hs : a = n ∨ b = m ∨ q a b = false) : Fur c q n m e d a := by
  refine ⟨a, b, rfl, hd, ha, hb, he, ?_⟩
  by_cases h1 : a = n
  · exact .inl h1
  by_cases h2 : b = m
  · exact .inr (.inl h2)
  refine .inr (.inr ?_)
  have hq : q a b = false := by rcases hs with h | h | h; exact absurd h h1; exact absurd h h2; exact h
  apply Classical.byContradiction
  intro hle
  obtain ⟨v, hv, hv2⟩ := ways_full P hD hd (by omega) (by omega) hq (by omega)
  have := hw v hv
  omega
end Mine
end
-- L4
section
open PySem PySem.W PySem.Calls PyProof.Rows
set_option maxRecDepth 100000
namespace Mine
/-- a statement ran through, and R holds behind it -/
structure NextR (R : Shared → Prop) (f : Flow) (s : Shared) : Prop where
  next : f = .next
  rest : R s
theorem cut1 {M : Model} {A : Around} {E : Value → Shared → Prop} {env : Env} {s : Shared} {a : Stmt} {r : List Stmt} {Q : Flow → Shared → Prop} (R : Shared → Prop)
    (h1 : wpAny M A (exec a env) (fun f s' => NextR R f s') E s) (h2 : ∀ s', R s' → wpAny M A (execs r env) Q E s') : wpAny M A (execs (a :: r) env) Q E s := by
  refine wpAny_execs_cons (wpAny_mono h1 (fun f s' h => ?_) fun _ _ e => e)
  obtain ⟨rfl, h⟩ := h
  exact h2 s' h
def AllInt (kvs : List (Int × Value)) : Prop := ∀ p ∈ kvs, ∃ i t, p.2 = .int i t
def gof (kvs : List (Int × Value)) (k : Int) : Option Int := match valueAt kvs k with | some (.int i _) => some i | _ => none
theorem gof_some {kvs : List (Int × Value)} {k i : Int} {t : Tok} (h : valueAt kvs k = some (.int i t)) : gof kvs k = some i := by unfold gof; rw [h]
theorem gof_none {kvs : List (Int × Value)} {k : Int} (h : valueAt kvs k = none) : gof kvs k = none := by unfold gof; rw [h]
theorem AllInt.at {kvs : List (Int × Value)} (h : AllInt kvs) (k : Int) : valueAt kvs k = none ∨ ∃ i t, valueAt kvs k = some (.int i t) := by
  unfold valueAt
  cases e : kvs.find? fun kv => kv.1 = k with
  | none => exact .inl rfl
  | some p =>
    obtain ⟨i, t, e2⟩ := h p (List.mem_of_find?_eq_some e)
    exact .inr ⟨i, t, by simp [e2]⟩
section
variable {prog : Program} {w : World} {A : Around} {E : Value → Shared → Prop} {s : Shared} {h₀ : Heap} {L d : Addr} {m : Str → Option Value} {news : List (Addr × Obj)} {o : Obj} {kvs : List (Int × Value)} {k : Int} {t : Tok}
theorem in_look {Q : Value → Shared → Prop} (N : News h₀ L s.heap news) (hp : (d, o) ∈ news) (hd : o.IsDictOf (PySem.intKind prog w) kvs) (lo : (d == sysModules) = false) (hi : AllInt kvs)
    (yn : (∀ i u, valueAt kvs k = some (.int i u) → gof kvs k = some i → Q (.bool true) { s with toks := s.toks + 1 }) ∧ (valueAt kvs k = none → gof kvs k = none → Q (.bool false) { s with toks := s.toks + 1 })) :
    wpAny (model prog w) A (compareOp .In (.int k t) (.ref d)) Q E s := by
  rcases hi.at k with h | ⟨i, u, h⟩
  · exact kda_in N hp hd lo (intKind_is _ _ _ _) false (by rw [h]; rfl) (yn.2 h (gof_none h))
  · exact kda_in N hp hd lo (intKind_is _ _ _ _) true (by rw [h]; rfl) (yn.1 i u h (gof_some h))
theorem item_look {value slice : PySem.Expr} {Q : Value → Shared → Prop} {i : Int} {u : Tok} (N : News h₀ L s.heap news) (hp : (d, o) ∈ news) (hd : o.IsDictOf (PySem.intKind prog w) kvs) (hl : valueAt kvs k = some (.int i u)) (h : Q (.int i u) { s with toks := s.toks + 1 })
    (hs : subscripted slice false (.ref d) (.int k t) = operate [.ref d, .int k t] (getItem (.ref d) (.int k t)) := by with_unfolding_all rfl) (hg : ∀ r, letTemporaryGo value (.ref d) r = pure () := by intro _; with_unfolding_all rfl) :
    wpAny (model prog w) A (subscriptTail value slice (.ref d) (.int k t)) Q E s := kda_item N hp hd (intKind_is _ _ _ _) hl h hs hg
theorem get_look {Q : Value → Shared → Prop} {df : Value} (N : News h₀ L s.heap news) (hp : (d, o) ∈ news) (hd : o.IsDictOf (PySem.intKind prog w) kvs) (lo : (d == sysModules) = false) (hi : AllInt kvs)
    (yn : (∀ i u, valueAt kvs k = some (.int i u) → Q (.int i u) { s with toks := s.toks + 1 }) ∧ (valueAt kvs k = none → Q df { s with toks := s.toks + 1 })) :
    wpAny (model prog w) A (call (.builtin "dict.get") [.ref d, .int k t, df]) Q E s := by
  rcases hi.at k with h | ⟨i, u, h⟩
  · exact kdg_get2 N hp hd lo (intKind_is _ _ _ _) none h (yn.2 h)
  · exact kdg_get2 N hp hd lo (intKind_is _ _ _ _) (some (.int i u)) h (yn.1 i u h)
theorem put_new {Q : Unit → Shared → Prop} {v : Value} {rest : List (Addr × Obj)} (F : Fr h₀ L s.heap m) (N : News h₀ L s.heap ((d, o) :: rest)) (hr : ∀ p ∈ rest, p.1 ≠ d) (hd : o.IsDictOf (PySem.intKind prog w) kvs) (hl : valueAt kvs k = none) (hsz : kvs.length ≤ 1000)
    (h : ∀ h' o', Fr h₀ L h' m → News h₀ L h' ((d, o') :: rest) → o'.IsDictOf (PySem.intKind prog w) (kvs ++ [(k, v)]) → Q () { s with heap := h', toks := s.toks + 1 }) : wpAny (model prog w) A (setItem (.ref d) (.int k t) v) Q E s :=
  kda_set F N (UpdF.head hr) hd (intKind_is _ _ _ _) (by rw [PySem.sizeLine_eq]; omega) fun h' o' F' N' hd' => h h' o' F' N' (by rw [stored_absent hl] at hd'; exact hd')
end
/-- the diagonals that a front's first t turns keep -/
def keysT (c : Bool) (n m e t : Nat) : List Int := ((List.range t).map (fun j : Nat => -(e : Int) + j)).filter (fun d => decide (Dom c n m e d))
theorem keysT_succ (c : Bool) (n m e t : Nat) : keysT c n m e (t + 1) = keysT c n m e t ++ (if Dom c n m e (-(e : Int) + t) then [-(e : Int) + t] else []) := by
  unfold keysT
  rw [List.range_succ, List.map_append, List.filter_append]
  congr 1
  by_cases h : Dom c n m e (-(e : Int) + t) <;> simp [h]
theorem mem_keysT {c : Bool} {n m e t : Nat} {d : Int} : d ∈ keysT c n m e t ↔ Dom c n m e d ∧ d < -(e : Int) + t := by
  unfold keysT
  rw [List.mem_filter, List.mem_map]
  constructor
  · rintro ⟨⟨j, hj, rfl⟩, h⟩
    exact ⟨by simpa using h, by have := List.mem_range.mp hj; omega⟩
  · rintro ⟨h, hlt⟩
    exact ⟨⟨(d + e).toNat, List.mem_range.mpr (by have := h.1; omega), by have := h.1; omega⟩, by simpa using h⟩
theorem keysT_length (c : Bool) (n m e t : Nat) : (keysT c n m e t).length ≤ t := by
  unfold keysT
  exact Nat.le_trans (List.length_filter_le _ _) (by simp)
/-- a front, filled by t turns -/
def Front (c : Bool) (q : Nat → Nat → Bool) (n m e t : Nat) (kvs : List (Int × Value)) : Prop :=
  kvs.map (·.1) = keysT c n m e t ∧ AllInt kvs ∧ (∀ k, Dom c n m e k → k < -(e : Int) + t → ∃ i, gof kvs k = some i ∧ Fur c q n m e k i) ∧ ∀ k, ¬ (Dom c n m e k ∧ k < -(e : Int) + t) → valueAt kvs k = none
theorem Front.nil (c : Bool) (q : Nat → Nat → Bool) (n m e : Nat) : Front c q n m e 0 [] :=
  ⟨rfl, (fun _ h => nomatch h), (fun k h1 h2 => absurd h1.1 (by omega)), fun _ _ => rfl⟩
theorem Front.length {c : Bool} {q : Nat → Nat → Bool} {n m e t : Nat} {kvs : List (Int × Value)} (h : Front c q n m e t kvs) : kvs.length ≤ t := by
  have := keysT_length c n m e t
  rw [← h.1, List.length_map] at this
  exact this
theorem Front.skip {c : Bool} {q : Nat → Nat → Bool} {n m e t : Nat} {kvs : List (Int × Value)} (h : Front c q n m e t kvs) (hD : ¬ Dom c n m e (-(e : Int) + t)) : Front c q n m e (t + 1) kvs := by
  obtain ⟨a, b, g, z⟩ := h
  refine ⟨by rw [keysT_succ, if_neg hD, List.append_nil]; exact a, b, fun k h1 h2 => g k h1 ?_, fun k hk => z k fun h1 => hk ⟨h1.1, by omega⟩⟩
  apply Classical.byContradiction
  intro hlt
  obtain rfl : k = -(e : Int) + t := by omega
  exact hD h1
theorem valueAt_snoc {kvs : List (Int × Value)} {d k : Int} {v : Value} (hn : valueAt kvs d = none) : valueAt (kvs ++ [(d, v)]) k = if k = d then some v else valueAt kvs k := by
  unfold valueAt at *
  rw [List.find?_append]
  cases e : kvs.find? fun kv => kv.1 = k with
  | some p =>
    have hk : ¬ k = d := by
      rintro rfl
      rw [e] at hn
      cases hn
    rw [if_neg hk]; rfl
  | none =>
    by_cases hk : k = d
    · subst hk; simp
    · rw [if_neg hk]
      have : ¬ d = k := fun e => hk e.symm
      simp [this]
theorem Front.put {c : Bool} {q : Nat → Nat → Bool} {n m e t : Nat} {kvs : List (Int × Value)} {i : Int} {u : Tok} (h : Front c q n m e t kvs) (hD : Dom c n m e (-(e : Int) + t)) (hf : Fur c q n m e (-(e : Int) + t) i) : Front c q n m e (t + 1) (kvs ++ [(-(e : Int) + t, .int i u)]) := by
  obtain ⟨a, b, g, z⟩ := h
  have hn : valueAt kvs (-(e : Int) + t) = none := z _ (by omega)
  refine ⟨by rw [keysT_succ, if_pos hD, List.map_append, a]; rfl, fun p hp => ?_, fun k h1 h2 => ?_, fun k hk => ?_⟩
  · rcases List.mem_append.mp hp with hp | hp
    · exact b p hp
    · rw [List.mem_singleton.mp hp]; exact ⟨_, _, rfl⟩
  · unfold gof
    rw [valueAt_snoc hn]
    by_cases hk : k = -(e : Int) + t
    · subst hk; rw [if_pos rfl]; exact ⟨i, rfl, hf⟩
    · rw [if_neg hk]
      exact g k h1 (by omega)
  · rw [valueAt_snoc hn, if_neg, z k fun h1 => hk ⟨h1.1, by omega⟩]
    rintro rfl
    exact hk ⟨hD, by omega⟩
theorem Front.prev {c : Bool} {q : Nat → Nat → Bool} {n m e : Nat} {kvs : List (Int × Value)} (h : Front c q n m e (2 * e + 1) kvs) : Prev c q n m (e + 1) (gof kvs) := by
  intro k
  refine ⟨fun hD => h.2.2.1 k hD (by have := hD.2.1; omega), fun hD => gof_none (h.2.2.2 k fun h1 => hD h1.1)⟩
theorem prev_nil (c : Bool) (q : Nat → Nat → Bool) (n m : Nat) : Prev c q n m 0 (gof []) := fun _ => rfl
/-- the diagonal of both ends: its place is the end just when so many changes reach it -/
theorem Front.done {c : Bool} {q : Nat → Nat → Bool} {n m e : Nat} {kvs : List (Int × Value)} {u : Tok} {i : Int} (h : Front c q n m e (2 * e + 1) kvs) (hl : valueAt kvs ((m : Int) - n) = some (.int i u)) : i = n ↔ ed c q n m ≤ e := by
  have hD : Dom c n m e ((m : Int) - n) := by
    apply Classical.byContradiction
    intro hn
    rw [h.2.2.2 _ fun h1 => hn h1.1] at hl
    cases hl
  obtain ⟨j, hj, hf⟩ := h.2.2.1 _ hD (by have := hD.2.1; omega)
  rw [gof_some hl] at hj
  obtain rfl := Option.some.inj hj
  constructor
  · rintro rfl
    obtain ⟨a, b, h1, h2, h3, h4, h5, _⟩ := hf
    obtain rfl : a = n := by omega
    obtain rfl : b = m := by omega
    exact h5
  · intro he
    have := hf.most (a := n) (b := m) (by omega) (Nat.le_refl _) (Nat.le_refl _) he
    obtain ⟨a, b, h1, h2, h3, h4, h5, _⟩ := hf
    omega
theorem Front.miss {c : Bool} {q : Nat → Nat → Bool} {n m e : Nat} {kvs : List (Int × Value)} (h : Front c q n m e (2 * e + 1) kvs) (hl : valueAt kvs ((m : Int) - n) = none) : ed c q n m ≠ e := by
  intro he
  have hg := ed_gap c q _ n m (Nat.le_refl _)
  have hD : Dom c n m e ((m : Int) - n) := by
    refine ⟨by omega, by omega, by omega, by omega, ?_⟩
    cases c with
    | true => exact .inl rfl
    | false =>
      have := ed_even q _ n m (Nat.le_refl _)
      exact .inr (by omega)
  obtain ⟨i, hi, _⟩ := h.2.2.1 _ hD (by have := hD.2.1; omega)
  rw [gof_none hl] at hi
  cases hi
end Mine
namespace Mine
theorem news_swap {h₀ h : Heap} {L : Addr} {a b c : Addr × Obj} {r : List (Addr × Obj)} (N : News h₀ L h (a :: b :: c :: r)) : News h₀ L h (a :: c :: b :: r) := by
  intro p hp
  refine N p ?_
  simp only [List.mem_cons] at hp ⊢
  rcases hp with hp | hp | hp | hp
  · exact .inl hp
  · exact .inr (.inr (.inl hp))
  · exact .inr (.inl hp)
  · exact .inr (.inr (.inr hp))
end Mine
namespace Mine
def wA (g : Int → Option Int) (d : Int) : List Int := match g (d - 1) with | some i => [i] | none => []
def wB (g : Int → Option Int) (d : Int) : List Int := match g (d + 1) with | some i => [i + 1] | none => []
def wC (c : Bool) (g : Int → Option Int) (d : Int) : List Int := if c = true then (match g d with | some i => [i + 1] | none => []) else []
def wD (e : Nat) : List Int := if e = 0 then [0] else []
theorem ways_eq (c : Bool) (g : Int → Option Int) (e : Nat) (d : Int) : wA g d ++ wB g d ++ wC c g d ++ wD e = ways c g e d := by
  unfold ways wA wB wC wD
  rw [List.append_assoc, List.append_assoc]
  first | done | rfl
theorem wA_some {g : Int → Option Int} {d i : Int} (h : g (d - 1) = some i) : wA g d = [i] := by unfold wA; rw [h]
theorem wA_none {g : Int → Option Int} {d : Int} (h : g (d - 1) = none) : wA g d = [] := by unfold wA; rw [h]
theorem wB_some {g : Int → Option Int} {d i : Int} (h : g (d + 1) = some i) : wB g d = [i + 1] := by unfold wB; rw [h]
theorem wB_none {g : Int → Option Int} {d : Int} (h : g (d + 1) = none) : wB g d = [] := by unfold wB; rw [h]
theorem wC_some {g : Int → Option Int} {d i : Int} (h : g d = some i) : wC true g d = [i + 1] := by unfold wC; rw [h]; rfl
theorem wC_none {g : Int → Option Int} {d : Int} (h : g d = none) : wC true g d = [] := by unfold wC; rw [h]; rfl
theorem wC_false (g : Int → Option Int) (d : Int) : wC false g d = [] := rfl
theorem wD_zero {e : Nat} (h : (e : Int) = 0) : wD e = [0] := by unfold wD; rw [if_pos (by omega)]
theorem wD_more {e : Nat} (h : ¬ (e : Int) = 0) : wD e = [] := by unfold wD; rw [if_neg (by omega)]
theorem wA_len (g : Int → Option Int) (d : Int) : (wA g d).length ≤ 1 := by unfold wA; split <;> simp
theorem wB_len (g : Int → Option Int) (d : Int) : (wB g d).length ≤ 1 := by unfold wB; split <;> simp
theorem wC_len (c : Bool) (g : Int → Option Int) (d : Int) : (wC c g d).length ≤ 1 := by unfold wC; split; split <;> simp; simp
theorem ints_snoc {cv : List Value} {ns : List Int} {i : Int} {t : Tok} (h : IntsAre cv ns) : IntsAre (cv ++ [.int i t]) (ns ++ [i]) := by
  induction h with
  | nil => exact .cons i t .nil
  | cons j u _ ih => exact .cons j u ih
end Mine
namespace Mine
section
variable {prog : Program} {w : World} {A : Around} {E : Value → Shared → Prop} {s : Shared} {h₀ : Heap} {L a b : Addr} {m : Str → Option Value} {news : List (Addr × Obj)} {cv : List Value} {ns : List Int} {nW n0 : Nat}
theorem ne_empty {Q : Value → Shared → Prop} (N : News h₀ L s.heap news) (hW : (a, W.listOf (List.toArray cv) nW) ∈ news) (hB : (b, W.listOf #[] n0) ∈ news) (hcv : IntsAre cv ns) (hu : A.units + 64 < cLine)
    (h : (0 < ns.length → Q (.bool true) s) ∧ (ns = [] → Q (.bool false) s)) : wpAny (model prog w) A (compareOp .NotEq (.ref a) (.ref b)) Q E s := by
  have hB' : (b, W.listOf (List.toArray []) n0) ∈ news := hB
  refine ne_intsK (PySem.IsL.isList (n := nW) (N _ hW).1) hcv (PySem.IsL.isList (n := n0) (N _ hB').1) .nil hu ?_
  by_cases e : ns = []
  · rw [decide_eq_true e]
    exact h.2 e
  · rw [decide_eq_false e]
    exact h.1 (List.length_pos_iff.mpr e)
theorem max_N {Q : Value → Shared → Prop} (hh : A.handled = none) (F : Fr h₀ L s.heap m) (N : News h₀ L s.heap news) (hW : (a, W.listOf (List.toArray cv) nW) ∈ news) (hcv : IntsAre cv ns) (hne : 0 < ns.length)
    (h : ∀ h' M (t : Tok) tk, Fr h₀ L h' m → News h₀ L h' news → M ∈ ns → (∀ a, a ∈ ns → a ≤ M) → Q (.int M t) { s with heap := h', toks := tk }) : wpAny (model prog w) A (call (.builtin "max") [.ref a]) Q E s :=
  max_list_N hh F N (PySem.IsL.isList (n := nW) (N _ hW).1) hcv hne h
end
end Mine
namespace Mine
theorem turn_in {a b i : Addr × Obj} {rest rest3 : List (Addr × Obj)} (h : rest3 = rest ++ [i]) : ∀ p ∈ a :: b :: rest, p ∈ a :: b :: rest3 := by
  subst h
  intro p hp
  simp only [List.mem_cons, List.mem_append] at hp ⊢
  rcases hp with hp | hp | hp
  · exact .inl hp
  · exact .inr (.inl hp)
  · exact .inr (.inr (.inl hp))
theorem turn_own {a b i : Addr × Obj} {rest rest3 : List (Addr × Obj)} (h : rest3 = rest ++ [i]) : ∀ p ∈ [i], p ∈ a :: b :: rest3 := by
  subst h
  intro p hp
  rw [List.mem_singleton.mp hp]
  simp
theorem turn_off {D : Addr} {o o' oi : Obj} {b : Addr × Obj} {I : Addr} {rest : List (Addr × Obj)} (h : ∀ q ∈ (D, o) :: b :: rest, q.1 ≠ I) : ∀ q ∈ (D, o') :: b :: rest, ∀ p ∈ [(I, oi)], q.1 ≠ p.1 := by
  intro q hq p hp
  rw [List.mem_singleton.mp hp]
  rcases List.mem_cons.mp hq with rfl | hq
  · exact h (D, o) (.head _)
  · exact h q (.tail _ hq)
end Mine
namespace Mine
theorem news_back {h₀ h : Heap} {L : Addr} {a b c : Addr × Obj} {r : List (Addr × Obj)} (N : News h₀ L h (a :: b :: c :: r)) : News h₀ L h (c :: a :: r) := by
  intro p hp
  refine N p ?_
  simp only [List.mem_cons] at hp ⊢
  rcases hp with hp | hp | hp
  · exact .inr (.inr (.inl hp))
  · exact .inl hp
  · exact .inr (.inr (.inr hp))
end Mine
namespace Mine
theorem refs_snoc {rows : List (Addr × Obj)} {D : Addr} {o : Obj} : refsOf rows ++ [Value.ref D] = refsOf (rows ++ [(D, o)]) := by simp [refsOf]
theorem ret_in {a b c i : Addr × Obj} (rows : List (Addr × Obj)) : ∀ p ∈ a :: b :: (rows ++ [c]), p ∈ a :: b :: c :: (rows ++ [i]) := by
  intro p hp
  simp only [List.mem_cons, List.mem_append, List.not_mem_nil, or_false] at hp ⊢
  rcases hp with hp | hp | hp | hp
  · exact .inl hp
  · exact .inr (.inl hp)
  · exact .inr (.inr (.inr (.inl hp)))
  · exact .inr (.inr (.inl hp))
theorem next_in {b c i : Addr × Obj} (rows : List (Addr × Obj)) : ∀ p ∈ b :: c :: (rows ++ [c]), p ∈ b :: c :: (rows ++ [i]) := by
  intro p hp
  simp only [List.mem_cons, List.mem_append, List.not_mem_nil, or_false] at hp ⊢
  rcases hp with hp | hp | hp | hp
  · exact .inl hp
  · exact .inr (.inl hp)
  · exact .inr (.inr (.inl hp))
  · exact .inr (.inl hp)
theorem next_own {b c i : Addr × Obj} (rows : List (Addr × Obj)) : ∀ p ∈ [i], p ∈ b :: c :: (rows ++ [i]) := by
  intro p hp
  rw [List.mem_singleton.mp hp]
  simp
theorem next_off {Fd D I : Addr} {oF oN oI : Obj} {rows : List (Addr × Obj)} (h1 : @Ne Nat Fd I) (h2 : @Ne Nat D I) (h3 : ∀ p ∈ rows, p.1 ≠ I) : ∀ q ∈ (Fd, oF) :: (D, oN) :: (rows ++ [(D, oN)]), ∀ p ∈ [(I, oI)], q.1 ≠ p.1 := by
  intro q hq p hp
  rw [List.mem_singleton.mp hp]
  rcases List.mem_cons.mp hq with rfl | hq
  · exact h1
  rcases List.mem_cons.mp hq with rfl | hq
  · exact h2
  rcases List.mem_append.mp hq with hq | hq
  · exact h3 q hq
  · rw [List.mem_singleton.mp hq]; exact h2
theorem next_apart {Fd D : Addr} {oN : Obj} {i : Addr × Obj} {rows : List (Addr × Obj)} (h : ∀ p ∈ (D, oN) :: (rows ++ [i]), p.1 ≠ Fd) : ∀ p ∈ (D, oN) :: (rows ++ [(D, oN)]), p.1 ≠ Fd := by
  intro p hp
  rcases List.mem_cons.mp hp with rfl | hp
  · exact h (D, oN) (.head _)
  rcases List.mem_append.mp hp with hp | hp
  · exact h p (.tail _ (List.mem_append_left _ hp))
  · rw [List.mem_singleton.mp hp]; exact h (D, oN) (.head _)
end Mine
end
-- L5
section
open PySem PySem.W PySem.Calls PyProof.Rows
set_option maxRecDepth 100000
namespace Mine
/-- a turn's end where the body leaves the loop by no other way -/
def TurnN (h₀ : Heap) (L : Addr) (J : (Str → Option Value) → List (Addr × Obj) → Prop) (own : List (Addr × Obj)) (s₁ : Shared) (f : Flow) (s₂ : Shared) : Prop :=
  f = .next ∧ ∃ h' tk m' nx, s₂ = { s₁ with heap := h', toks := tk } ∧ Fr h₀ L h' m' ∧ News h₀ L h' nx ∧ News h₀ L h' own ∧ (∀ q ∈ nx, ∀ p ∈ own, q.1 ≠ p.1) ∧ J m' nx
section
variable {prog : Program} {w : World} {A : Around} {E : Value → Shared → Prop} {s : Shared} {env : Env} {h₀ : Heap} {x : Str} {body : List Stmt} {Q : Flow → Shared → Prop} {m : Str → Option Value} {news : List (Addr × Obj)}
theorem TurnG.more {L ax : Addr} {o : Obj} {J : (Str → Option Value) → List (Addr × Obj) → Prop} {own : List (Addr × Obj)} {s₁ s₂ : Shared} {f : Flow} (ho : (ax, o) ∈ own) (h : TurnG h₀ L J own s₁ Q f s₂) : TurnG h₀ L (fun m nx => J m nx ∧ ∀ p ∈ nx, p.1 ≠ ax) own s₁ Q f s₂ := by
  cases f with
  | ret v => exact h
  | brk => exact h
  | next =>
    obtain ⟨h', tk, m', nx, e, F, N, No, hd, hJ⟩ := h
    exact ⟨h', tk, m', nx, e, F, N, No, hd, hJ, fun p hp => hd p hp _ ho⟩
  | cont =>
    obtain ⟨h', tk, m', nx, e, F, N, No, hd, hJ⟩ := h
    exact ⟨h', tk, m', nx, e, F, N, No, hd, hJ, fun p hp => hd p hp _ ho⟩
theorem iter_list {ax : Addr} {cv : List Value} {na : Nat} (J : Nat → (Str → Option Value) → List (Addr × Obj) → Prop)
    (hh : A.handled = none) (F : Fr h₀ env.locals s.heap m) (N : News h₀ env.locals s.heap ((ax, W.listOf (List.toArray cv) na) :: news)) (hax : ∀ p ∈ news, p.1 ≠ ax) (hj : J 0 m news)
    (turn : ∀ i v m₁ news₁ h tk own, cv[i]? = some v → J i m₁ news₁ → (∀ q ∈ news₁, ∀ p ∈ own, q.1 ≠ p.1) → Fr h₀ env.locals h (fun y => if y = x then some v else m₁ y) → News h₀ env.locals h (news₁ ++ own) →
      wpAny (model prog w) A (execs body env) (TurnG h₀ env.locals (J (i + 1)) own { s with heap := h, toks := tk } Q) E { s with heap := h, toks := tk })
    (done : ∀ m₁ news₁ h tk, J cv.length m₁ news₁ → Fr h₀ env.locals h m₁ → News h₀ env.locals h news₁ → Q .next { s with heap := h, toks := tk }) :
    wpAny (model prog w) A (pyIter (.ref ax)) (fun it s₂ => LoopAtV prog w A h₀ env x body Q E it s₂) E s := by
  have hA := N _ (.head _)
  have hl : s.heap.IsList ax cv.toArray := PySem.IsL.isList (n := na) hA.1
  refine wpAny_pyIter_list hl ?_
  have hlt : @LT.lt Nat _ ax s.heap.objs.size := Heap.lt_size hA.1
  have hW := Walks.list (prog := prog) (w := w) hh s.heap.objs.size ax (Nat.ne_of_lt hlt) cv.toArray
  obtain ⟨oL, _, _, hL, _⟩ := id F.ns
  have hLlt : env.locals < s.heap.objs.size := Heap.lt_size hL
  have hfresh : h₀.get? s.heap.objs.size = none := by
    cases e : h₀.get? s.heap.objs.size with
    | none => rfl
    | some o' => exact absurd (Heap.lt_size (F.keep _ _ e)) (Nat.lt_irrefl _)
  refine ⟨_, _, _, cv.toArray.size, _, _, m, news, (fun i m nx => J i m nx ∧ ∀ p ∈ nx, p.1 ≠ ax), rfl, hW, ?_, ?_, ?_, ?_, F.push _, (fun p hp => ⟨Heap.get?_push_of_some _ (N p (.tail _ hp)).1, (N p (.tail _ hp)).2⟩), ⟨hj, hax⟩, ?_, ?_⟩
  · intro hm
    rcases List.mem_cons.mp hm with hm | hm
    · exact absurd hm (Nat.ne_of_lt hLlt)
    · exact hA.2.1 (List.mem_singleton.mp hm).symm
  · intro b' hb'
    rw [List.mem_singleton.mp hb']
    exact hfresh
  · intro p hp hm
    exact absurd (Heap.lt_size (N p (.tail _ hp)).1) (List.mem_singleton.mp hm ▸ Nat.lt_irrefl _)
  · exact ⟨⟨_, Heap.get?_push_size _ rfl, rfl, rfl⟩, PySem.IsL.isList (n := na) (Heap.get?_push_of_some _ hA.1)⟩
  · rintro i v m₁ news₁ s₁ own ⟨hh', tk', rfl⟩ hi hv ⟨hJ, hnax⟩ hnw hown hget hall hst F₁ N₁
    have hI : ∃ o, (s.heap.objs.size, o) ∈ own := by
      obtain ⟨o, ho, _⟩ := hst.1
      exact ⟨o, hall _ (.head _) hfresh o ho⟩
    have N₂ : News h₀ env.locals hh' (news₁ ++ own) := by
      intro p hp
      rcases List.mem_append.mp hp with hp | hp
      · exact N₁ p (List.mem_append_right _ hp)
      · exact N₁ p (List.mem_append_left _ hp)
    have hax2 : ∃ o, (ax, o) ∈ own := by
      obtain ⟨o, ho, _⟩ := hst.2
      exact ⟨o, hall _ (.tail _ (.head _)) hA.2.2 o ho⟩
    have hv2 : cv[i]? = some v := by simpa using hv
    refine wpAny_mono (turn i v m₁ news₁ hh' tk' own hv2 hJ (fun q hq p hp e => ?_) F₁ N₂) (fun f s₂ p => ?_) fun _ _ e => e
    · rcases List.mem_cons.mp (hown p hp) with e2 | e2
      · exact hnw q hq (List.mem_singleton.mpr (e.trans e2))
      · exact hnax q hq (e.trans (List.mem_singleton.mp e2))
    obtain ⟨o, ho⟩ := hax2
    refine TurnG.toV (fun p hp => hp) (fun b' hb' => by rw [List.mem_singleton] at hb'; subst hb'; exact hI) (TurnG.more ho p)
  · rintro h' tk m' news' F' N' _ ⟨hJ, _⟩
    exact done m' news' h' tk (by simpa using hJ) F' N'
theorem iter_listU {ax : Addr} {cv : List Value} {na : Nat} (J : Nat → (Str → Option Value) → List (Addr × Obj) → Prop)
    (hh : A.handled = none) (F : Fr h₀ env.locals s.heap m) (N : News h₀ env.locals s.heap ((ax, W.listOf (List.toArray cv) na) :: news)) (hax : ∀ p ∈ news, p.1 ≠ ax) (hj : J 0 m news)
    (turn : ∀ i v m₁ news₁ (s₁ : Shared) own, cv[i]? = some v → J i m₁ news₁ → (∀ q ∈ news₁, ∀ p ∈ own, q.1 ≠ p.1) → Fr h₀ env.locals s₁.heap (fun y => if y = x then some v else m₁ y) → News h₀ env.locals s₁.heap (news₁ ++ own) →
      wpAny (model prog w) A (execs body env) (TurnN h₀ env.locals (J (i + 1)) own s₁) E s₁)
    (done : ∀ m₁ news₁ h tk, J cv.length m₁ news₁ → Fr h₀ env.locals h m₁ → News h₀ env.locals h news₁ → Q .next { s with heap := h, toks := tk }) :
    wpAny (model prog w) A (pyIter (.ref ax)) (fun it s₂ => LoopAtU prog w A h₀ env x body Q E it s₂) E s := by
  have hA := N _ (.head _)
  have hl : s.heap.IsList ax cv.toArray := PySem.IsL.isList (n := na) hA.1
  refine wpAny_pyIter_list hl ?_
  have hlt : @LT.lt Nat _ ax s.heap.objs.size := Heap.lt_size hA.1
  have hW := Walks.list (prog := prog) (w := w) hh s.heap.objs.size ax (Nat.ne_of_lt hlt) cv.toArray
  obtain ⟨oL, _, _, hL, _⟩ := id F.ns
  have hLlt : env.locals < s.heap.objs.size := Heap.lt_size hL
  have hfresh : h₀.get? s.heap.objs.size = none := by
    cases e : h₀.get? s.heap.objs.size with
    | none => rfl
    | some o' => exact absurd (Heap.lt_size (F.keep _ _ e)) (Nat.lt_irrefl _)
  refine ⟨_, _, _, cv.toArray.size, _, _, m, news, (fun i m nx => J i m nx ∧ ∀ p ∈ nx, p.1 ≠ ax), rfl, hW, ?_, ?_, ?_, ?_, F.push _, (fun p hp => ⟨Heap.get?_push_of_some _ (N p (.tail _ hp)).1, (N p (.tail _ hp)).2⟩), ⟨hj, hax⟩, ?_, ?_⟩
  · intro hm
    rcases List.mem_cons.mp hm with hm | hm
    · exact absurd hm (Nat.ne_of_lt hLlt)
    · exact hA.2.1 (List.mem_singleton.mp hm).symm
  · intro b' hb'
    rw [List.mem_singleton.mp hb']
    exact hfresh
  · intro p hp hm
    exact absurd (Heap.lt_size (N p (.tail _ hp)).1) (List.mem_singleton.mp hm ▸ Nat.lt_irrefl _)
  · exact ⟨⟨_, Heap.get?_push_size _ rfl, rfl, rfl⟩, PySem.IsL.isList (n := na) (Heap.get?_push_of_some _ hA.1)⟩
  · rintro i v m₁ news₁ s₁ own hi hv ⟨hJ, hnax⟩ hnw hown hget hall hst F₁ N₁
    have hI : ∃ o, (s.heap.objs.size, o) ∈ own := by
      obtain ⟨o, ho, _⟩ := hst.1
      exact ⟨o, hall _ (.head _) hfresh o ho⟩
    have N₂ : News h₀ env.locals s₁.heap (news₁ ++ own) := by
      intro p hp
      rcases List.mem_append.mp hp with hp | hp
      · exact N₁ p (List.mem_append_right _ hp)
      · exact N₁ p (List.mem_append_left _ hp)
    have hax2 : ∃ o, (ax, o) ∈ own := by
      obtain ⟨o, ho, _⟩ := hst.2
      exact ⟨o, hall _ (.tail _ (.head _)) hA.2.2 o ho⟩
    have hv2 : cv[i]? = some v := by simpa using hv
    refine wpAny_mono (turn i v m₁ news₁ s₁ own hv2 hJ (fun q hq p hp e => ?_) F₁ N₂) (fun f s₂ p => ?_) fun _ _ e => e
    · rcases List.mem_cons.mp (hown p hp) with e2 | e2
      · exact hnw q hq (List.mem_singleton.mpr (e.trans e2))
      · exact hnax q hq (e.trans (List.mem_singleton.mp e2))
    obtain ⟨o, ho⟩ := hax2
    obtain ⟨rfl, h', tk, m', nx, e, F, N, No, hd, hJ⟩ := p
    refine ⟨rfl, h', tk, m', nx, e, F, fun p hp => ?_, fun p hp hb => ?_, hJ, fun p hp => hd p hp _ ho⟩
    · rcases List.mem_append.mp hp with hp | hp
      · exact No p hp
      · exact N p hp
    · obtain ⟨oI, hoI⟩ := hI
      exact hd p hp _ hoI (List.mem_singleton.mp hb)
  · rintro h' tk m' news' F' N' _ ⟨hJ, _⟩
    exact done m' news' h' tk (by simpa using hJ) F' N'
end
end Mine
end
-- L6
section
open PySem PySem.W PySem.Calls PyProof.Rows
set_option maxRecDepth 100000
namespace Mine
theorem ints_at : ∀ {vs : List Value} {ns : List Int} {i : Nat} {v : Value}, IntsAre vs ns → vs[i]? = some v → ∃ z t, v = .int z t
  | _, _, _, _, .nil, h => by simp at h
  | _, _, 0, _, .cons z t _, h => by
    simp only [List.getElem?_cons_zero, Option.some.injEq] at h
    exact ⟨z, t, h.symm⟩
  | _, _, i + 1, _, .cons _ _ r, h => ints_at (i := i) r (by simpa using h)
section
variable {prog : Program} {w : World} {A : Around} {E : Value → Shared → Prop} {s : Shared} {h₀ : Heap} {L D : Addr} {m : Str → Option Value} {news : List (Addr × Obj)} {a b : Str} {ta tb u t : Tok} {n : Nat} {k : Int}
theorem two_get {Q : Value → Shared → Prop} (N : News h₀ L s.heap news) (hm : (D, W.listOf #[.str a ta, .str b tb] n) ∈ news) (h0 : 0 ≤ k) (h2 : k < 2) (h : (k = 0 → Q (.str a ta) s) ∧ (k = 1 → Q (.str b tb) s)) : wpAny (model prog w) A (getItem (.ref D) (.int k u)) Q E s := by
  have hl : s.heap.IsList D #[.str a ta, .str b tb] := PySem.IsL.isList (n := n) (N _ hm).1
  by_cases e : k = 0
  · subst e
    exact wpAny_getItem_list hl (by omega) (by omega) rfl (h.1 rfl)
  · obtain rfl : k = 1 := by omega
    exact wpAny_getItem_list hl (by omega) (by omega) rfl (h.2 rfl)
theorem two_sub {value slice : PySem.Expr} {Q : Value → Shared → Prop} (N : News h₀ L s.heap news) (hm : (D, W.listOf #[.str a ta, .str b tb] n) ∈ news) (h0 : 0 ≤ k) (h2 : k < 2) (h : (k = 0 → Q (.str a ta) s) ∧ (k = 1 → Q (.str b tb) s))
    (hs : subscripted slice false (.ref D) (.int k u) = operate [.ref D, .int k u] (getItem (.ref D) (.int k u)) := by with_unfolding_all rfl) :
    wpAny (model prog w) A (subscriptTail value slice (.ref D) (.int k u)) Q E s := by
  have hl : s.heap.IsList D #[.str a ta, .str b tb] := PySem.IsL.isList (n := n) (N _ hm).1
  exact tail_any hl.typeIs slot_list_getitem.lookup (two_get N hm h0 h2 h) hs
theorem two_setA {c : Str} {tc : Tok} {rest : List (Addr × Obj)} {Q : Unit → Shared → Prop} (F : Fr h₀ L s.heap m) (N : News h₀ L s.heap ((D, W.listOf #[.str a ta, .str b tb] n) :: rest)) (hr : ∀ p ∈ rest, p.1 ≠ D) (hk : k = 0)
    (h : ∀ h' n', Fr h₀ L h' m → News h₀ L h' ((D, W.listOf #[.str c tc, .str b tb] n') :: rest) → Q () { s with heap := h' }) : wpAny (model prog w) A (setItem (.ref D) (.int k u) (.str c tc)) Q E s := by
  subst hk
  have z := N _ (.head _)
  refine ki_setAt z.1 (by omega) (by omega) (by simp) (h _ _ (F.change (Heap.SameBut.update ..) z.2.1 z.2.2) (ki_turn (pre := []) _ N (fun _ h => nomatch h) hr ?_ rfl))
  rfl
theorem two_setB {c : Str} {tc : Tok} {rest : List (Addr × Obj)} {Q : Unit → Shared → Prop} (F : Fr h₀ L s.heap m) (N : News h₀ L s.heap ((D, W.listOf #[.str a ta, .str b tb] n) :: rest)) (hr : ∀ p ∈ rest, p.1 ≠ D) (hk : k = 1)
    (h : ∀ h' n', Fr h₀ L h' m → News h₀ L h' ((D, W.listOf #[.str a ta, .str c tc] n') :: rest) → Q () { s with heap := h' }) : wpAny (model prog w) A (setItem (.ref D) (.int k u) (.str c tc)) Q E s := by
  subst hk
  have z := N _ (.head _)
  refine ki_setAt z.1 (by omega) (by omega) (by simp) (h _ _ (F.change (Heap.SameBut.update ..) z.2.1 z.2.2) (ki_turn (pre := []) _ N (fun _ h => nomatch h) hr ?_ rfl))
  rfl
theorem front_row {value slice : PySem.Expr} {Q : Value → Shared → Prop} {rows : List (Addr × Obj)} (N : News h₀ L s.heap news) (hm : (D, W.listOf (refsOf rows).toArray n) ∈ news) (h0 : 0 ≤ k) (h1 : k < rows.length) (hfit : k < 2 ^ 63)
    (h : ∀ p, rows[k.toNat]? = some p → Q (.ref p.1) s)
    (hs : subscripted slice false (.ref D) (.int k u) = operate [.ref D, .int k u] (getItem (.ref D) (.int k u)) := by with_unfolding_all rfl) :
    wpAny (model prog w) A (subscriptTail value slice (.ref D) (.int k u)) Q E s := by
  have hl : s.heap.IsList D (refsOf rows).toArray := PySem.IsL.isList (n := n) (N _ hm).1
  have hlt : k.toNat < rows.length := by omega
  exact tail_any hl.typeIs slot_list_getitem.lookup (wpAny_getItem_list (x := .ref (rows[k.toNat]).1) hl h0 hfit (by simp [refsOf, hlt]) (h _ (by simp [hlt]))) hs
end
end Mine
namespace Mine
theorem fmod_two (z : Int) : 0 ≤ z.fmod 2 ∧ z.fmod 2 < 2 := by
  rw [Int.fmod_eq_emod_of_nonneg z (by omega)]
  omega
theorem fmod_in (z : Int) {n : Nat} (h : 1 ≤ n) : 0 ≤ z.fmod (n : Int) ∧ z.fmod (n : Int) < n := by
  rw [Int.fmod_eq_emod_of_nonneg z (by omega)]
  exact ⟨Int.emod_nonneg _ (by omega), Int.emod_lt_of_pos _ (by omega)⟩
end Mine
namespace Mine
theorem loop_off {Tx : Addr} {o : Obj} {own : List (Addr × Obj)} (h : ∀ p ∈ own, p.1 ≠ Tx) : ∀ q ∈ [(Tx, o)], ∀ p ∈ own, q.1 ≠ p.1 := by
  intro q hq p hp
  rw [List.mem_singleton.mp hq]
  exact fun e => h p hp e.symm
end Mine
end
-- L7
section
open PySem PySem.W PySem.Calls PyProof.Rows
namespace Mine
theorem inst_led {h₀ h : Heap} {L x C dx : Addr} {es : List DictEntry} {n : Nat} {news : List (Addr × Obj)} (N : News h₀ L h news) (hx : (x, instObj C dx) ∈ news) (hd : (dx, W.dictOf es n) ∈ news) : W.InstAt h x (instObj C dx) C (some (W.dictOf es n)) :=
  ⟨(N _ hx).1, rfl, rfl, (N _ hd).1⟩
end Mine
end
-- L8
section
open PySem PySem.W PySem.Calls PyProof.Rows
set_option maxRecDepth 100000
namespace Mine
/-- a statement ran through and changed no name -/
structure SameR (h₀ : Heap) (L : Addr) (m : Str → Option Value) (news : List (Addr × Obj)) (s : Shared) (f : Flow) (s' : Shared) : Prop where
  next : f = .next
  rest : ∃ h' tk, s' = { s with heap := h', toks := tk } ∧ Fr h₀ L h' m ∧ News h₀ L h' news
theorem cutK {M : Model} {A : Around} {E : Value → Shared → Prop} {env : Env} {s : Shared} {a : Stmt} {r : List Stmt} {Q : Flow → Shared → Prop} {h₀ : Heap} {L : Addr} {m : Str → Option Value} {news : List (Addr × Obj)}
    (_F : Fr h₀ L s.heap m) (_N : News h₀ L s.heap news)
    (h1 : wpAny M A (exec a env) (SameR h₀ L m news s) E s) (h2 : ∀ h' tk, Fr h₀ L h' m → News h₀ L h' news → wpAny M A (execs r env) Q E { s with heap := h', toks := tk }) : wpAny M A (execs (a :: r) env) Q E s := by
  refine wpAny_execs_cons (wpAny_mono h1 (fun f s' h => ?_) fun _ _ e => e)
  obtain ⟨rfl, h', tk, rfl, F, N⟩ := h
  exact h2 h' tk F N
end Mine
end
-- S3
section
open PySem PySem.W PySem.Calls PyProof.Rows
set_option maxRecDepth 100000
namespace Mine
section
variable {M : Model} {A : Around} {E : Value → Shared → Prop} {s : Shared} {K : Frag} {env : Env} {pos p : Pos} {x C : Addr} {ox : Obj} {od : Option Obj} {first : List Value} {Q : Value → Shared → Prop} {e : Expr} {q g : Addr} {self : Value}
theorem callWith_SM {h₀ : Heap} {L : Addr} {news : List (Addr × Obj)} (_X : K.In h₀) (_N : News h₀ L s.heap news) (_q : (q, methodObj (.ref g) self) ∈ news) (hf : fnIn K g = true) (h : wpAny M A (eval e env) (fun v s₁ => StarOf M A E v (fun vs s₂ => MethP K q g self s₂.heap ∧ wpAny M A (call (.ref q) (first ++ vs)) Q E s₂) s₁) E s)
    (he : starEach [.Starred e p] env = [(true, eval e env)] := by rfl) :
    wpAny M A (callWith pos (.ref q) first (backTo pos (starEach [.Starred e p] env)) []) Q E s := by
  rw [he]
  exact ks_call rfl (keeps_M hf) (ks_lone h)
theorem callWith_SI {f : Addr} (_X : K.In s.heap) (_I : InstAt s.heap x ox C od) (hd : ox.data = .plain) (_hs : findIn K (.ref C) "__call__" = some (some (.ref f))) (h : wpAny M A (eval e env) (fun v s₁ => StarOf M A E v (fun vs s₂ => kco_P K x C ox od s₂.heap ∧ wpAny M A (call (.ref x) (first ++ vs)) Q E s₂) s₁) E s)
    (he : starEach [.Starred e p] env = [(true, eval e env)] := by rfl) :
    wpAny M A (callWith pos (.ref x) first (backTo pos (starEach [.Starred e p] env)) []) Q E s := by
  rw [he]
  unfold callWith
  refine wpAny_bind (wpAny_holding (wpAny_mono (ks_lone (Q := fun a s₁ => kco_P K x C ox od s₁.heap ∧ wpAny M A (call (.ref x) (first ++ a.pos) a.kw) Q E s₁) h) (fun a s₁ h₁ => wpAny_bind (wpAny_standAt ?_)) fun _ _ y => y))
  have L := kco_keeper (M := M) h₁.1.2 hd
  have hst : (backTo pos [(true, eval e env)]).any (·.1) = true := rfl
  simp only [hst, Bool.true_or]
  refine wpAny_bind (L.here ?_)
  have tail : ∀ {t : Sem Value}, wpAny M A t Q E s₁ → wpAny M A (t >>= fun r => holding [r] point >>= fun _ => pure r) Q E s₁ :=
    fun ht => wpAny_bind (wpAny_mono ht (fun r s₂ hr => wpAny_bind (wpAny_holding (wpAny_point (wpAny_pure hr)))) fun _ _ y => y)
  first
    | exact tail (wpAny_operateT h₁.2)
    | exact tail (wpAny_operating h₁.2)
    | exact tail h₁.2
end
end Mine
end
-- S4
section
open PySem PySem.W PySem.Calls PyProof.Rows
set_option maxRecDepth 100000
namespace Mine
theorem ints_of_keys {prog : Program} {w : World} : ∀ {vs : List Value} {kvs : List (Int × Value)}, vs.length = kvs.length → (∀ (j : Nat) (v : Value), vs[j]? = some v → ∃ k x, kvs[j]? = some (k, x) ∧ (PySem.intKind prog w).is k v = true) → IntsAre vs (kvs.map (·.1))
  | [], [], _, _ => .nil
  | v :: vs, (k, x) :: kvs, hl, h => by
    obtain ⟨k', x', e, hk⟩ := h 0 v rfl
    simp only [List.getElem?_cons_zero, Option.some.injEq, Prod.mk.injEq] at e
    obtain ⟨rfl, rfl⟩ := e
    obtain ⟨t, rfl⟩ := Value.isInt_shape hk
    refine .cons k t (ints_of_keys (prog := prog) (w := w) (by simpa using hl) fun j u hu => ?_)
    have := h (j + 1) u (by simpa using hu)
    simpa using this
  | [], _ :: _, hl, _ => by simp at hl
  | _ :: _, [], hl, _ => by simp at hl
section
variable {prog : Program} {w : World} {A : Around} {E : Value → Shared → Prop} {s : Shared} {h₀ : Heap} {L d D : Addr} {m : Str → Option Value} {news : List (Addr × Obj)} {o : Obj} {kvs : List (Int × Value)} {vs : List Value} {ns : List Int}
theorem list_sort_N {Q : Value → Shared → Prop} {n : Nat} (F : Fr h₀ L s.heap m) (N : News h₀ L s.heap ((D, W.listOf (List.toArray vs) n) :: news)) (hb : ∀ q ∈ news, q.1 < D) (hI : IntsAre vs ns) (hpos : vs ≠ []) (h64 : vs.length < 64)
    (h : ∀ vs' ns' c h', Fr h₀ L h' m → News h₀ L h' ((D, W.listOf (List.toArray vs') c) :: news) → IntsAre vs' ns' → ns'.Perm ns → Q .none { s with heap := h' }) :
    wpAny (model prog w) A (call (.builtin "list.sort") [.ref D]) Q E s := by
  have z := N (D, W.listOf (List.toArray vs) n) (.head _)
  have ho : s.heap.get? D = some (seqObj "list" vs.toArray n) := z.1
  refine wpAny_call_entry PyProof.Rows.slot_list_sort ⟨_, z.1, rfl⟩ PyProof.Rows.entry_list_sort (list_sort_tree (n := n) (vs := vs) ho hI h64 fun out ns' hI' hp hP => ⟨.none, rfl, ?_⟩) (PyProof.Rows.args_list_sort _)
  have hsz : vs.toArray.size ≠ 0 := by
    rw [List.size_toArray]
    exact fun e => hpos (List.eq_nil_of_length_eq_zero e)
  have hlen : out.size ≠ 0 := by
    have h1 := hp.length_eq
    have h2 := hI'.length
    have h3 := hI.length
    have h4 : out.toList.length = out.size := Array.length_toList
    rw [List.size_toArray] at hsz
    omega
  have b : ∀ p ∈ news, p.1 ≠ D := fun p hp => Nat.ne_of_lt (hb p hp)
  have F1 : Fr h₀ L (s.heap.update D (Obj.mapSeq fun _ => (#[] : Array Value))) m := F.change (Heap.SameBut.update ..) z.2.1 z.2.2
  have N1 := ki_turn (pre := []) (fun _ => (#[] : Array Value)) (its' := #[]) (n' := n + 1) N (fun _ h => nomatch h) b rfl (by rw [if_neg (by simpa using fun h => hsz h.symm)])
  have N2 := News.grown N1 fun _ _ e => Heap.get?_push_of_some (seqObj "tuple" vs.toArray 0) e
  have N3 := News.grown N2 fun _ _ e => Heap.get?_push_of_some (seqObj "list" #[] 0) e
  have N4 := ki_turn (pre := []) (fun _ => out) (its' := out) (n' := n + 2) N3 (fun _ h => nomatch h) b rfl (by rw [if_neg (by simpa using hlen)])
  have F4 : Fr h₀ L ((((s.heap.update D (Obj.mapSeq fun _ => (#[] : Array Value))).push (seqObj "tuple" vs.toArray 0)).push (seqObj "list" #[] 0)).update D (Obj.mapSeq fun _ => out)) m :=
    ((F1.push (seqObj "tuple" vs.toArray 0)).push (seqObj "list" #[] 0)).change (Heap.SameBut.update ..) z.2.1 z.2.2
  have eo : out = List.toArray out.toList := (Array.toArray_toList).symm
  refine h out.toList ns' (n + 2) _ F4 ?_ hI' hp
  rw [← eo]
  exact N4
theorem dict_sorted {Q : Value → Shared → Prop} (hh : A.handled = none) (F : Fr h₀ L s.heap m) (N : News h₀ L s.heap news) (hp : (d, o) ∈ news) (hd : o.IsDictOf (PySem.intKind prog w) kvs) (lo : (d == sysModules) = false) (hpos : kvs ≠ []) (h64 : kvs.length < 64)
    (h : ∀ D vs ns c h' tk, Fr h₀ L h' m → News h₀ L h' ((D, W.listOf (List.toArray vs) c) :: news) → (∀ q ∈ news, q.1 < D) → IntsAre vs ns → ns.Perm (kvs.map (·.1)) → Q (.ref D) { s with heap := h', toks := tk }) :
    wpAny (model prog w) A (call (.builtin "sorted") [.ref d]) Q E s := by
  have hD := kda_dict N hp hd
  obtain ⟨ep, hat⟩ := hD.dictAt
  refine kdu_sorted (kdl_dict (knd := PySem.intKind prog w) (kvs := kvs) (ep := ep) lo) hh F N hat (kdl_size (by omega)) fun B h' tk vs F' N' l1 hl hv => ?_
  have hI : IntsAre vs (kvs.map (·.1)) := ints_of_keys hl hv
  refine list_sort_N F' N' l1 hI (fun e => hpos (List.eq_nil_of_length_eq_zero (by rw [← hl, e]; rfl))) (by omega) fun vs' ns' c h'' F'' N'' hI' hp' => ?_
  exact h B vs' ns' c h'' tk F'' N'' l1 hI' hp'
end
end Mine
end
-- C1
section
open PySem PySem.W PySem.Calls PyProof.Rows
namespace Mine
local macro_rules | `(tactic| walk_at "eval Call Attribute") => `(tactic| (k_here; (with_reducible show wpAny _ _ (eval (Expr.Call (Expr.Attribute _ _ _) [Expr.Starred _ _] [] _) _) _ _ _); refine methodCall_star ?_))
local macro_rules | `(tactic| walk_at "getAttr ref") => `(tactic| (k_here; k_dflt (refine' get_sm ?k1 ?k2 ?k4 ?k5 ?k6 ?k7 ?k8 ?k9 ?k10 ?k11 ?k12 ?k13 ?_; (case k4 => k_inst); (case k1 => k_asm); (case k2 => k_asm); (case k5 => k_is); (case k6 => k_is); (case k7 => k_is); (case k8 => k_is); (case k9 => k_is); (case k10 => decide +kernel); (case k11 => k_get); (case k12 => k_is); (case k13 => k_handed); k_whole)))
local macro_rules | `(tactic| k_inst) => `(tactic| (refine' inst_fz ?F ?I; (case F => k_asm); (case I => with_reducible assumption)))
local macro_rules | `(tactic| k_steps) => `(tactic| repeat' ((fail_if_success (with_reducible show wpAny _ _ (pyIter _) _ _ _)); (fail_if_success (with_reducible show wpAny _ _ (exec (Stmt.While _ _ _ _) _) _ _ _)); first | (k_unfold; (try dsimp only)) | (k_end; wrow_close) | walk1 | (dsimp only; walk1) | fail "no step"))
local macro_rules | `(tactic| ktr_room) => `(tactic| (simp only [Around.deeper, Around.in1, Around.mark, recursionLimit] at *; omega))
local macro_rules | `(tactic| ktr_units) => `(tactic| (have hcL9 := cLine_is; simp only [Around.deeper, Around.in1, Around.mark] at *; omega))
local macro_rules | `(tactic| ktr_enter) => `(tactic| (refine wpAny_call ?_; first
  | (refine' code_fz ?k3 ?k5 ?k6 ?k7 ?k8 ?k9 ?kB ?_ ?c2 ?c3 ?c4 ?c5; (case k3 => k_asm); (case k5 => k_asm); (case k6 => k_is); (case k7 => k_is); (case k8 => ktr_room); (case k9 => first | exact BindsTo.of_eq rfl | exact binds_K (by k_in) rfl (by k_is) rfl rfl rfl); (case c5 => decide); (case kB => exact locs rfl); (case c2 => exact rfl); (case c3 => exact rfl); (case c4 => exact rfl); k_whole; intro L' h' F' N'; (try dsimp only); (try k_fold))
  | (refine' code_fzR ?k3 ?k5 ?k6 ?k7 ?k8 ?kV ?kP ?kG ?kB ?_ ?c2 ?c3 ?c4 ?c5; (case k3 => k_asm); (case k5 => k_asm); (case k6 => k_is); (case k7 => k_is); (case k8 => ktr_room); (case kV => kl_lit); (case kP => exact rfl); (case kG => exact fun _ => rfl); (case kB => exact fun _ => locs rfl); (case c5 => decide); (case c2 => exact rfl); (case c3 => exact rfl); (case c4 => exact rfl); k_whole; intro D' L' h' tk' F' N'; (try dsimp only); (try k_fold))
  | (refine' code_fzC ?k3 ?k5 ?k6 ?k7 ?k8 ?k9 ?kB ?kD ?_ ?c2 ?c3 ?c4; (case k3 => k_asm); (case k5 => k_asm); (case k6 => k_is); (case k7 => k_is); (case k8 => ktr_room); (case k9 => first | exact BindsTo.of_eq rfl | exact binds_K (by k_in) rfl (by k_is) rfl rfl rfl); (case kB => exact rfl); (case kD => decide +kernel); (case c2 => exact rfl); (case c3 => exact rfl); (case c4 => exact rfl); k_whole; intro L' h' tk' cells' F' N' Y'; k_cells Y'; (try simp only [List.cons_append, List.nil_append] at N'); (try dsimp only); (try k_fold))
  | (refine' code_fzRC ?k3 ?k5 ?k6 ?k7 ?k8 ?kV ?kP ?kG ?kB ?kD ?_ ?c2 ?c3 ?c4; (case k3 => k_asm); (case k5 => k_asm); (case k6 => k_is); (case k7 => k_is); (case k8 => ktr_room); (case kV => kl_lit); (case kP => exact rfl); (case kG => exact fun _ => rfl); (case kB => exact fun _ => rfl); (case kD => decide +kernel); (case c2 => exact rfl); (case c3 => exact rfl); (case c4 => exact rfl); k_whole; intro D' L' h' tk' cells' F' N' Y'; k_cells Y'; (try simp only [List.cons_append, List.nil_append] at N'); (try dsimp only); (try k_fold))))
theorem fill_C1 (w : World) : Mine.hd.heap_39 w.params = Mine.hd.heap_39 w.params ∧ PySem.Challenge.rw_fq5040_01 = PySem.Challenge.rw_fq5040_01 := by
  w_top off
  k_fill
  exact ⟨rfl, rfl⟩
set_option maxRecDepth 100000
set_option maxHeartbeats 4000000
local macro_rules | `(tactic| walk_at "call type:set") => `(tactic| (k_here; (with_unfolding_all refine' set_two_N ?k1 ?k2 ?k3 ?k4 ?_; (case k1 => k_asm); (case k2 => k_asm); (case k3 => rfl); (case k4 => k_mem)); intro S' h' tk' o' F' N' hs'))
theorem con_ident {w : World} {A : Around} {s : Shared} {p : Program} {loose : List Str} {mean : ExcName → Option Value} {mg mb : Str → Option Value} {Q E : Value → Shared → Prop} {x y : Str} {t u : Tok}
    (X : (Mine.hd.heap_39 w.params).In s.heap) (T : Top p loose mean mg mb s.heap) (hA : A.handled = none) (hd : A.depth + 1 < recursionLimit) 
    (hret : ∀ h' tk', Keep s.heap h' → Q (.bool (decide (x = y))) { s with heap := h', toks := tk' }) :
    wpAny (model PR w) A (call (.ref 100) [.str x t, .str y u]) Q E s := by
  obtain ⟨hh, dp, fr, gd, un⟩ := A
  subst hA
  ktr_enter
  k_steps
  rename Fr _ _ _ _ => F9
  have e : (((if x = y then 1 else 2 : Nat) : Int) == 1) = decide (x = y) := by split <;> simp_all
  rw [e]
  exact hret _ _ F9.keep
theorem use_ident {w : World} {A : Around} {s : Shared} {p : Program} {loose : List Str} {mean : ExcName → Option Value} {mg mb : Str → Option Value} {Q E : Value → Shared → Prop} {x y : Str} {t u : Tok} {h₀ : Heap} {L : Addr} {m : Str → Option Value} {news : List (Addr × Obj)}
    (F : Fr h₀ L s.heap m) (N : News h₀ L s.heap news) (X : (Mine.hd.heap_39 w.params).In h₀) (T : Top p loose mean mg mb h₀) (hA : A.handled = none) (hd : A.depth + 1 < recursionLimit)
    (h : ∀ h' tk', Fr h₀ L h' m → News h₀ L h' news → Q (.bool (decide (x = y))) { s with heap := h', toks := tk' }) :
    wpAny (model PR w) A (call (.ref 100) [.str x t, .str y u]) Q E s :=
  con_ident (X.keeps F.keep) (T.keeps F.keep) hA hd fun h' tk' k => h h' tk' (F.keeps k) (N.grown k)

end Mine
end
-- C2
section
open PySem PySem.W PySem.Calls PyProof.Rows
namespace Mine
local macro_rules | `(tactic| walk_at "eval Call Attribute") => `(tactic| (k_here; (with_reducible show wpAny _ _ (eval (Expr.Call (Expr.Attribute _ _ _) [Expr.Starred _ _] [] _) _) _ _ _); refine methodCall_star ?_))
local macro_rules | `(tactic| walk_at "getAttr ref") => `(tactic| (k_here; k_dflt (refine' get_sm ?k1 ?k2 ?k4 ?k5 ?k6 ?k7 ?k8 ?k9 ?k10 ?k11 ?k12 ?k13 ?_; (case k4 => k_inst); (case k1 => k_asm); (case k2 => k_asm); (case k5 => k_is); (case k6 => k_is); (case k7 => k_is); (case k8 => k_is); (case k9 => k_is); (case k10 => decide +kernel); (case k11 => k_get); (case k12 => k_is); (case k13 => k_handed); k_whole)))
local macro_rules | `(tactic| k_inst) => `(tactic| (refine' inst_fz ?F ?I; (case F => k_asm); (case I => with_reducible assumption)))
local macro_rules | `(tactic| k_steps) => `(tactic| repeat' ((fail_if_success (with_reducible show wpAny _ _ (pyIter _) _ _ _)); (fail_if_success (with_reducible show wpAny _ _ (exec (Stmt.While _ _ _ _) _) _ _ _)); first | (k_unfold; (try dsimp only)) | (k_end; wrow_close) | walk1 | (dsimp only; walk1) | fail "no step"))
local macro_rules | `(tactic| ktr_room) => `(tactic| (simp only [Around.deeper, Around.in1, Around.mark, recursionLimit] at *; omega))
local macro_rules | `(tactic| ktr_units) => `(tactic| (have hcL9 := cLine_is; simp only [Around.deeper, Around.in1, Around.mark] at *; omega))
local macro_rules | `(tactic| ktr_enter) => `(tactic| (refine wpAny_call ?_; first
  | (refine' code_fz ?k3 ?k5 ?k6 ?k7 ?k8 ?k9 ?kB ?_ ?c2 ?c3 ?c4 ?c5; (case k3 => k_asm); (case k5 => k_asm); (case k6 => k_is); (case k7 => k_is); (case k8 => ktr_room); (case k9 => first | exact BindsTo.of_eq rfl | exact binds_K (by k_in) rfl (by k_is) rfl rfl rfl); (case c5 => decide); (case kB => exact locs rfl); (case c2 => exact rfl); (case c3 => exact rfl); (case c4 => exact rfl); k_whole; intro L' h' F' N'; (try dsimp only); (try k_fold))
  | (refine' code_fzR ?k3 ?k5 ?k6 ?k7 ?k8 ?kV ?kP ?kG ?kB ?_ ?c2 ?c3 ?c4 ?c5; (case k3 => k_asm); (case k5 => k_asm); (case k6 => k_is); (case k7 => k_is); (case k8 => ktr_room); (case kV => kl_lit); (case kP => exact rfl); (case kG => exact fun _ => rfl); (case kB => exact fun _ => locs rfl); (case c5 => decide); (case c2 => exact rfl); (case c3 => exact rfl); (case c4 => exact rfl); k_whole; intro D' L' h' tk' F' N'; (try dsimp only); (try k_fold))
  | (refine' code_fzC ?k3 ?k5 ?k6 ?k7 ?k8 ?k9 ?kB ?kD ?_ ?c2 ?c3 ?c4; (case k3 => k_asm); (case k5 => k_asm); (case k6 => k_is); (case k7 => k_is); (case k8 => ktr_room); (case k9 => first | exact BindsTo.of_eq rfl | exact binds_K (by k_in) rfl (by k_is) rfl rfl rfl); (case kB => exact rfl); (case kD => decide +kernel); (case c2 => exact rfl); (case c3 => exact rfl); (case c4 => exact rfl); k_whole; intro L' h' tk' cells' F' N' Y'; k_cells Y'; (try simp only [List.cons_append, List.nil_append] at N'); (try dsimp only); (try k_fold))
  | (refine' code_fzRC ?k3 ?k5 ?k6 ?k7 ?k8 ?kV ?kP ?kG ?kB ?kD ?_ ?c2 ?c3 ?c4; (case k3 => k_asm); (case k5 => k_asm); (case k6 => k_is); (case k7 => k_is); (case k8 => ktr_room); (case kV => kl_lit); (case kP => exact rfl); (case kG => exact fun _ => rfl); (case kB => exact fun _ => rfl); (case kD => decide +kernel); (case c2 => exact rfl); (case c3 => exact rfl); (case c4 => exact rfl); k_whole; intro D' L' h' tk' cells' F' N' Y'; k_cells Y'; (try simp only [List.cons_append, List.nil_append] at N'); (try dsimp only); (try k_fold))))
theorem fill_C2 (w : World) : Mine.hd.heap_39 w.params = Mine.hd.heap_39 w.params ∧ PySem.Challenge.rw_fq5040_01 = PySem.Challenge.rw_fq5040_01 := by
  w_top off
  k_fill
  exact ⟨rfl, rfl⟩
set_option maxRecDepth 100000
set_option maxHeartbeats 4000000
theorem con_max {w : World} {A : Around} {s : Shared} {p : Program} {loose : List Str} {mean : ExcName → Option Value} {mg mb : Str → Option Value} {Q E : Value → Shared → Prop} {x y : Str} {t u : Tok}
    (X : (Mine.hd.heap_39 w.params).In s.heap) (T : Top p loose mean mg mb s.heap) (hA : A.handled = none) (hd : A.depth + 1 < recursionLimit)
    (hx : x.length ≤ 100) (hy : y.length ≤ 100)
    (hret : ∀ v h' tk', Keep s.heap h' → Q (.int ((max x.length y.length : Nat) : Int) v) { s with heap := h', toks := tk' }) :
    wpAny (model PR w) A (call (.ref 55) [.str x t, .str y u]) Q E s := by
  obtain ⟨hh, dp, fr, gd, un⟩ := A
  subst hA
  ktr_enter
  k_steps
  rename Fr _ _ _ _ => F1
  rename News _ _ _ _ => N1
  refine call_map_len (News.isTup N1 (by k_mem)) fun h2 z TI it hz hT hit hzi hTi lit lTI lz hk => ?_
  k_steps
  have hD := N1.get (.head _)
  refine max_map_len rfl hz hT hit (⟨_, hk _ _ hD, rfl, _, rfl⟩) hzi hTi (Nat.ne_of_lt (Nat.lt_of_lt_of_le (Heap.lt_size hD) lit)) hx hy fun v h3 tk3 hk3 => ?_
  k_steps
  exact hret _ _ _ fun b o e => hk3 b o (Nat.ne_of_lt (Nat.lt_of_lt_of_le (Heap.lt_size (F1.keep b o e)) lit)) (hk b o (F1.keep b o e))
theorem use_max {w : World} {A : Around} {s : Shared} {p : Program} {loose : List Str} {mean : ExcName → Option Value} {mg mb : Str → Option Value} {Q E : Value → Shared → Prop} {x y : Str} {t u : Tok} {h₀ : Heap} {L : Addr} {m : Str → Option Value} {news : List (Addr × Obj)}
    (F : Fr h₀ L s.heap m) (N : News h₀ L s.heap news) (X : (Mine.hd.heap_39 w.params).In h₀) (T : Top p loose mean mg mb h₀) (hA : A.handled = none) (hd : A.depth + 1 < recursionLimit)
    (hx : x.length ≤ 100) (hy : y.length ≤ 100)
    (h : ∀ v h' tk', Fr h₀ L h' m → News h₀ L h' news → Q (.int ((max x.length y.length : Nat) : Int) v) { s with heap := h', toks := tk' }) :
    wpAny (model PR w) A (call (.ref 55) [.str x t, .str y u]) Q E s :=
  con_max (X.keeps F.keep) (T.keeps F.keep) hA hd hx hy fun v h' tk' k => h v h' tk' (F.keeps k) (N.grown k)

end Mine
end
-- C3
section
local macro_rules | `(tactic| walk_at "mine pad") => `(tactic| fail "pad")
open PySem PySem.W PySem.Calls PyProof.Rows
namespace Mine
local macro_rules | `(tactic| walk_at "eval Call Attribute") => `(tactic| (k_here; (with_reducible show wpAny _ _ (eval (Expr.Call (Expr.Attribute _ _ _) [Expr.Starred _ _] [] _) _) _ _ _); refine methodCall_star ?_))
local macro_rules | `(tactic| walk_at "getAttr ref") => `(tactic| (k_here; k_dflt (refine' get_sm ?k1 ?k2 ?k4 ?k5 ?k6 ?k7 ?k8 ?k9 ?k10 ?k11 ?k12 ?k13 ?_; (case k4 => k_inst); (case k1 => k_asm); (case k2 => k_asm); (case k5 => k_is); (case k6 => k_is); (case k7 => k_is); (case k8 => k_is); (case k9 => k_is); (case k10 => decide +kernel); (case k11 => k_get); (case k12 => k_is); (case k13 => k_handed); k_whole)))
local macro_rules | `(tactic| k_inst) => `(tactic| (refine' inst_fz ?F ?I; (case F => k_asm); (case I => with_reducible assumption)))
local macro_rules | `(tactic| k_steps) => `(tactic| repeat' ((fail_if_success (with_reducible show wpAny _ _ (pyIter _) _ _ _)); (fail_if_success (with_reducible show LCg.CompSrc _ _ _ _ _ _ _ _ _ _ _ _ _ _)); (fail_if_success (with_reducible show wpAny _ _ (exec (Stmt.While _ _ _ _) _) _ _ _)); first | (k_unfold; (try dsimp only)) | (k_end; wrow_close) | walk1 | (dsimp only; walk1) | (dsimp only; k_unfold; (try dsimp only)) | fail "no step"))
local macro_rules | `(tactic| ktr_room) => `(tactic| (simp only [Around.deeper, Around.in1, Around.mark, recursionLimit] at *; omega))
local macro_rules | `(tactic| ktr_units) => `(tactic| (have hcL9 := cLine_is; simp only [Around.deeper, Around.in1, Around.mark] at *; omega))
local macro_rules | `(tactic| ktr_enter) => `(tactic| ((try refine wpAny_call ?_); first
  | (refine' code_fz ?k3 ?k5 ?k6 ?k7 ?k8 ?k9 ?kB ?_ ?c2 ?c3 ?c4 ?c5; (case k3 => k_asm); (case k5 => k_asm); (case k6 => k_is); (case k7 => k_is); (case k8 => ktr_room); (case k9 => first | exact BindsTo.of_eq rfl | exact binds_K (by k_in) rfl (by k_is) rfl rfl rfl); (case c5 => decide); (case kB => exact locs rfl); (case c2 => exact rfl); (case c3 => exact rfl); (case c4 => exact rfl); k_whole; intro L' h' F' N'; (try dsimp only); (try k_fold))
  | (refine' code_fzR ?k3 ?k5 ?k6 ?k7 ?k8 ?kV ?kP ?kG ?kB ?_ ?c2 ?c3 ?c4 ?c5; (case k3 => k_asm); (case k5 => k_asm); (case k6 => k_is); (case k7 => k_is); (case k8 => ktr_room); (case kV => kl_lit); (case kP => exact rfl); (case kG => exact fun _ => rfl); (case kB => exact fun _ => locs rfl); (case c5 => decide); (case c2 => exact rfl); (case c3 => exact rfl); (case c4 => exact rfl); k_whole; intro D' L' h' tk' F' N'; (try dsimp only); (try k_fold))
  | (refine' code_fzC ?k3 ?k5 ?k6 ?k7 ?k8 ?k9 ?kB ?kD ?_ ?c2 ?c3 ?c4; (case k3 => k_asm); (case k5 => k_asm); (case k6 => k_is); (case k7 => k_is); (case k8 => ktr_room); (case k9 => first | exact BindsTo.of_eq rfl | exact binds_K (by k_in) rfl (by k_is) rfl rfl rfl); (case kB => exact rfl); (case kD => decide +kernel); (case c2 => exact rfl); (case c3 => exact rfl); (case c4 => exact rfl); k_whole; intro L' h' tk' cells' F' N' Y'; k_cells Y'; (try simp only [List.cons_append, List.nil_append] at N'); (try dsimp only); (try k_fold))
  | (refine' code_fzRC ?k3 ?k5 ?k6 ?k7 ?k8 ?kV ?kP ?kG ?kB ?kD ?_ ?c2 ?c3 ?c4; (case k3 => k_asm); (case k5 => k_asm); (case k6 => k_is); (case k7 => k_is); (case k8 => ktr_room); (case kV => kl_lit); (case kP => exact rfl); (case kG => exact fun _ => rfl); (case kB => exact fun _ => rfl); (case kD => decide +kernel); (case c2 => exact rfl); (case c3 => exact rfl); (case c4 => exact rfl); k_whole; intro D' L' h' tk' cells' F' N' Y'; k_cells Y'; (try simp only [List.cons_append, List.nil_append] at N'); (try dsimp only); (try k_fold))))
theorem fill_C3 (w : World) : Mine.hd.heap_39 w.params = Mine.hd.heap_39 w.params ∧ PySem.Challenge.rw_fq5040_01 = PySem.Challenge.rw_fq5040_01 := by
  w_top off
  k_fill
  exact ⟨rfl, rfl⟩
set_option maxRecDepth 100000
set_option maxHeartbeats 4000000
theorem con_gsC {w : World} {A : Around} {s : Shared} {p : Program} {loose : List Str} {mean : ExcName → Option Value} {mg mb : Str → Option Value} {Q E : Value → Shared → Prop} {self dx C : Addr} {t1 t2 t3 t4 : Tok} {x y : Str} {t u : Tok}
    (X : (Mine.hd.heap_39 w.params).In s.heap) (T : Top p loose mean mg mb s.heap) (hA : A.handled = none) (hd : A.depth + 1 < recursionLimit)
    (hC : C = 222 ∨ C = 266) (I : InstAt s.heap self (instObj C dx) C (some (dictOf (levEs w t1 t2 t3 t4) 3)))
    (hret : ∀ D n h' tk', Keep s.heap h' → s.heap.objs.size ≤ D → h'.get? D = some (W.listOf #[.str x t, .str y u] n) → Q (.ref D) { s with heap := h', toks := tk' }) :
    codeAny (model PR w) A (.call (.ref 108) ⟨[.ref self, .str x t, .str y u], []⟩) (fun r s' => match r with | .ok (.ret v) => Q v s' | .ok _ => False | .error e => E e s') s := by
  obtain ⟨hh, dp, fr, gd, un⟩ := A
  subst hA
  rcases hC with rfl | rfl
  all_goals
    ktr_enter
    k_steps
    rename Fr _ _ _ _ => F1
    rename News _ _ _ _ => N1
    exact hret _ _ _ _ F1.keep (by have := F1.above; omega) (N1 _ (.head _)).1
theorem con_gs {w : World} {A : Around} {s : Shared} {p : Program} {loose : List Str} {mean : ExcName → Option Value} {mg mb : Str → Option Value} {Q E : Value → Shared → Prop} {self dx C : Addr} {t1 t2 t3 t4 : Tok} {x y : Str} {t u : Tok}
    (X : (Mine.hd.heap_39 w.params).In s.heap) (T : Top p loose mean mg mb s.heap) (hA : A.handled = none) (hd : A.depth + 1 < recursionLimit)
    (hC : C = 222 ∨ C = 266) (I : InstAt s.heap self (instObj C dx) C (some (dictOf (levEs w t1 t2 t3 t4) 3)))
    (hret : ∀ D n h' tk', Keep s.heap h' → s.heap.objs.size ≤ D → h'.get? D = some (W.listOf #[.str x t, .str y u] n) → Q (.ref D) { s with heap := h', toks := tk' }) :
    wpAny (model PR w) A (call (.ref 108) [.ref self, .str x t, .str y u]) Q E s :=
  wpAny_call (con_gsC X T hA hd hC I hret)
theorem use_gs {w : World} {A : Around} {s : Shared} {p : Program} {loose : List Str} {mean : ExcName → Option Value} {mg mb : Str → Option Value} {Q E : Value → Shared → Prop} {x y : Str} {t u : Tok} {h₀ : Heap} {L : Addr} {m : Str → Option Value} {news : List (Addr × Obj)} {self dx C : Addr} {t1 t2 t3 t4 : Tok}
    (F : Fr h₀ L s.heap m) (N : News h₀ L s.heap news) (X : (Mine.hd.heap_39 w.params).In h₀) (T : Top p loose mean mg mb h₀) (hA : A.handled = none) (hd : A.depth + 1 < recursionLimit)
    (hC : C = 222 ∨ C = 266) (I : InstAt s.heap self (instObj C dx) C (some (dictOf (levEs w t1 t2 t3 t4) 3)))
    (h : ∀ D n h' tk', Fr h₀ L h' m → News h₀ L h' ((D, W.listOf #[.str x t, .str y u] n) :: news) → (∀ p ∈ news, p.1 < D) → Q (.ref D) { s with heap := h', toks := tk' }) :
    wpAny (model PR w) A (call (.ref 108) [.ref self, .str x t, .str y u]) Q E s := by
  refine con_gs (X.keeps F.keep) (T.keeps F.keep) hA hd hC I fun D n h' tk' k hn hg => ?_
  exact h D n h' tk' (F.keeps k) (news_more F (N.grown k) hn hg) fun p hp => Nat.lt_of_lt_of_le (Heap.lt_size (N p hp).1) hn

theorem meth_gs {w : World} {A : Around} {s : Shared} {p : Program} {loose : List Str} {mean : ExcName → Option Value} {mg mb : Str → Option Value} {Q E : Value → Shared → Prop} {x y : Str} {t u : Tok} {h₀ : Heap} {L : Addr} {m : Str → Option Value} {news : List (Addr × Obj)} {self dx C q : Addr} {t1 t2 t3 t4 : Tok}
    (F : Fr h₀ L s.heap m) (N : News h₀ L s.heap news) (X : (Mine.hd.heap_39 w.params).In h₀) (T : Top p loose mean mg mb h₀) (hA : A.handled = none) (hd : A.depth + 1 < recursionLimit)
    (hC : C = 222 ∨ C = 266) (I : InstAt s.heap self (instObj C dx) C (some (dictOf (levEs w t1 t2 t3 t4) 3))) (hq : (q, methodObj (.ref 108) (.ref self)) ∈ news)
    (h : ∀ D n h' tk', Fr h₀ L h' m → News h₀ L h' ((D, W.listOf #[.str x t, .str y u] n) :: news) → (∀ p ∈ news, p.1 < D) → Q (.ref D) { s with heap := h', toks := tk' }) :
    wpAny (model PR w) A (call (.ref q) [.str x t, .str y u]) Q E s := by
  refine call_meth N hq ?_
  refine con_gsC (X.keeps F.keep) (T.keeps F.keep) hA hd hC I fun D n h' tk' k hn hg => ?_
  exact h D n h' tk' (F.keeps k) (news_more F (N.grown k) hn hg) fun p hp => Nat.lt_of_lt_of_le (Heap.lt_size (N p hp).1) hn

end Mine
end
-- C4
section
open PySem PySem.W PySem.Calls PyProof.Rows
namespace Mine
local macro_rules | `(tactic| walk_at "eval Call Attribute") => `(tactic| (k_here; (with_reducible show wpAny _ _ (eval (Expr.Call (Expr.Attribute _ _ _) [Expr.Starred _ _] [] _) _) _ _ _); refine methodCall_star ?_))
local macro_rules | `(tactic| walk_at "getAttr ref") => `(tactic| (k_here; k_dflt (refine' get_sm ?k1 ?k2 ?k4 ?k5 ?k6 ?k7 ?k8 ?k9 ?k10 ?k11 ?k12 ?k13 ?_; (case k4 => k_inst); (case k1 => k_asm); (case k2 => k_asm); (case k5 => k_is); (case k6 => k_is); (case k7 => k_is); (case k8 => k_is); (case k9 => k_is); (case k10 => decide +kernel); (case k11 => k_get); (case k12 => k_is); (case k13 => k_handed); k_whole)))
local macro_rules | `(tactic| k_inst) => `(tactic| (refine' inst_fz ?F ?I; (case F => k_asm); (case I => with_reducible assumption)))
local macro_rules | `(tactic| k_steps) => `(tactic| repeat' ((fail_if_success (with_reducible show wpAny _ _ (pyIter _) _ _ _)); (fail_if_success (with_reducible show wpAny _ _ (exec (Stmt.While _ _ _ _) _) _ _ _)); first | (k_unfold; (try dsimp only)) | (k_end; wrow_close) | walk1 | (dsimp only; walk1) | (dsimp only; k_unfold; (try dsimp only)) | fail "no step"))
local macro_rules | `(tactic| ktr_room) => `(tactic| (simp only [Around.deeper, Around.in1, Around.mark, recursionLimit] at *; omega))
local macro_rules | `(tactic| ktr_units) => `(tactic| (have hcL9 := cLine_is; simp only [Around.deeper, Around.in1, Around.mark] at *; omega))
local macro_rules | `(tactic| ktr_enter) => `(tactic| (refine wpAny_call ?_; first
  | (refine' code_fz ?k3 ?k5 ?k6 ?k7 ?k8 ?k9 ?kB ?_ ?c2 ?c3 ?c4 ?c5; (case k3 => k_asm); (case k5 => k_asm); (case k6 => k_is); (case k7 => k_is); (case k8 => ktr_room); (case k9 => first | exact BindsTo.of_eq rfl | exact binds_K (by k_in) rfl (by k_is) rfl rfl rfl); (case c5 => decide); (case kB => exact locs rfl); (case c2 => exact rfl); (case c3 => exact rfl); (case c4 => exact rfl); k_whole; intro L' h' F' N'; (try dsimp only); (try k_fold))
  | (refine' code_fzR ?k3 ?k5 ?k6 ?k7 ?k8 ?kV ?kP ?kG ?kB ?_ ?c2 ?c3 ?c4 ?c5; (case k3 => k_asm); (case k5 => k_asm); (case k6 => k_is); (case k7 => k_is); (case k8 => ktr_room); (case kV => kl_lit); (case kP => exact rfl); (case kG => exact fun _ => rfl); (case kB => exact fun _ => locs rfl); (case c5 => decide); (case c2 => exact rfl); (case c3 => exact rfl); (case c4 => exact rfl); k_whole; intro D' L' h' tk' F' N'; (try dsimp only); (try k_fold))
  | (refine' code_fzC ?k3 ?k5 ?k6 ?k7 ?k8 ?k9 ?kB ?kD ?_ ?c2 ?c3 ?c4; (case k3 => k_asm); (case k5 => k_asm); (case k6 => k_is); (case k7 => k_is); (case k8 => ktr_room); (case k9 => first | exact BindsTo.of_eq rfl | exact binds_K (by k_in) rfl (by k_is) rfl rfl rfl); (case kB => exact rfl); (case kD => decide +kernel); (case c2 => exact rfl); (case c3 => exact rfl); (case c4 => exact rfl); k_whole; intro L' h' tk' cells' F' N' Y'; k_cells Y'; (try simp only [List.cons_append, List.nil_append] at N'); (try dsimp only); (try k_fold))
  | (refine' code_fzRC ?k3 ?k5 ?k6 ?k7 ?k8 ?kV ?kP ?kG ?kB ?kD ?_ ?c2 ?c3 ?c4; (case k3 => k_asm); (case k5 => k_asm); (case k6 => k_is); (case k7 => k_is); (case k8 => ktr_room); (case kV => kl_lit); (case kP => exact rfl); (case kG => exact fun _ => rfl); (case kB => exact fun _ => rfl); (case kD => decide +kernel); (case c2 => exact rfl); (case c3 => exact rfl); (case c4 => exact rfl); k_whole; intro D' L' h' tk' cells' F' N' Y'; k_cells Y'; (try simp only [List.cons_append, List.nil_append] at N'); (try dsimp only); (try k_fold))))
theorem fill_C4 (w : World) : Mine.hd.heap_39 w.params = Mine.hd.heap_39 w.params ∧ PySem.Challenge.rw_fq5040_01 = PySem.Challenge.rw_fq5040_01 := by
  w_top off
  k_fill
  exact ⟨rfl, rfl⟩
set_option maxRecDepth 100000
set_option maxHeartbeats 4000000
local macro_rules | `(tactic| walk_at "call ref") => `(tactic| (k_here; (refine' use_ident ?k1 ?k2 ?k3 ?k4 ?k5 ?k6 ?_; (case k1 => k_asm); (case k2 => k_asm); (case k3 => k_asm); (case k4 => k_asm); (case k5 => rfl); (case k6 => ktr_room); intro h' tk' F' N'; (try k_sweep))))
local macro_rules | `(tactic| walk_at "call ref") => `(tactic| (k_here; (refine' use_max ?k1 ?k2 ?k3 ?k4 ?k5 ?k6 ?k7 ?k8 ?_; (case k1 => k_asm); (case k2 => k_asm); (case k3 => k_asm); (case k4 => k_asm); (case k5 => rfl); (case k6 => ktr_room); (case k7 => omega); (case k8 => omega); intro v' h' tk' F' N'; (try k_sweep))))
local macro_rules | `(tactic| walk_at "call builtin:all") => `(tactic| (k_here; (with_unfolding_all refine' all_two ?k1 ?k2 ?k3 ?k4 ?k5 ?k6 ?_; (case k1 => k_asm); (case k2 => k_asm); (case k3 => rfl); (case k4 => k_mem); (case k5 => omega); (case k6 => omega); intro h' tk' F' N'; (try k_sweep))))
theorem con_qa {w : World} {A : Around} {s : Shared} {p : Program} {loose : List Str} {mean : ExcName → Option Value} {mg mb : Str → Option Value} {Q E : Value → Shared → Prop} {self dx : Addr} {t1 t2 t3 t4 : Tok} {x y : Str} {t u : Tok}
    (X : (Mine.hd.heap_39 w.params).In s.heap) (T : Top p loose mean mg mb s.heap) (hA : A.handled = none) (hd : A.depth + 2 < recursionLimit)
    (hx : x.length ≤ 100) (hy : y.length ≤ 100)
    (I : InstAt s.heap self (instObj 222 dx) 222 (some (dictOf (levEs w t1 t2 t3 t4) 3)))
    (hret : ∀ v h' tk', Keep s.heap h' → ((x = y ∧ ∃ a, v = .int 0 a) ∨ (x ≠ y ∧ (x.length = 0 ∨ y.length = 0) ∧ ∃ a, v = .int ((max x.length y.length : Nat) : Int) a) ∨ (x ≠ y ∧ x.length ≠ 0 ∧ y.length ≠ 0 ∧ v = .none)) → Q v { s with heap := h', toks := tk' }) :
    wpAny (model PR w) A (call (.ref 93) [.ref self, .str x t, .str y u]) Q E s := by
  obtain ⟨hh, dp, fr, gd, un⟩ := A
  subst hA
  ktr_enter
  k_steps
  all_goals (rename Fr _ _ _ _ => F1; refine hret _ _ _ F1.keep ?_; first | exact .inl ⟨by assumption, _, rfl⟩ | exact .inr (.inl ⟨by assumption, by omega, _, rfl⟩) | (refine .inr (.inr ⟨by assumption, ?_, ?_, rfl⟩) <;> omega))
theorem use_qa {w : World} {A : Around} {s : Shared} {p : Program} {loose : List Str} {mean : ExcName → Option Value} {mg mb : Str → Option Value} {Q E : Value → Shared → Prop} {x y : Str} {t u : Tok} {h₀ : Heap} {L : Addr} {m : Str → Option Value} {news : List (Addr × Obj)} {self dx : Addr} {t1 t2 t3 t4 : Tok}
    (F : Fr h₀ L s.heap m) (N : News h₀ L s.heap news) (X : (Mine.hd.heap_39 w.params).In h₀) (T : Top p loose mean mg mb h₀) (hA : A.handled = none) (hd : A.depth + 2 < recursionLimit)
    (hx : x.length ≤ 100) (hy : y.length ≤ 100)
    (I : InstAt s.heap self (instObj 222 dx) 222 (some (dictOf (levEs w t1 t2 t3 t4) 3)))
    (h1 : ∀ a h' tk', x = y → Fr h₀ L h' m → News h₀ L h' news → Q (.int 0 a) { s with heap := h', toks := tk' })
    (h2 : ∀ a h' tk', x ≠ y → (x.length = 0 ∨ y.length = 0) → Fr h₀ L h' m → News h₀ L h' news → Q (.int ((max x.length y.length : Nat) : Int) a) { s with heap := h', toks := tk' })
    (h3 : ∀ h' tk', x ≠ y → x.length ≠ 0 → y.length ≠ 0 → Fr h₀ L h' m → News h₀ L h' news → Q .none { s with heap := h', toks := tk' }) :
    wpAny (model PR w) A (call (.ref 93) [.ref self, .str x t, .str y u]) Q E s :=
  con_qa (X.keeps F.keep) (T.keeps F.keep) hA hd hx hy I fun v h' tk' k hv => by
    rcases hv with ⟨e, a, rfl⟩ | ⟨e, e1, a, rfl⟩ | ⟨e, e1, e2, rfl⟩
    · exact h1 a h' tk' e (F.keeps k) (N.grown k)
    · exact h2 a h' tk' e e1 (F.keeps k) (N.grown k)
    · exact h3 h' tk' e e1 e2 (F.keeps k) (N.grown k)

end Mine
end
-- C5
section
open PySem PySem.W PySem.Calls PyProof.Rows
namespace Mine
local macro_rules | `(tactic| walk_at "eval Call Attribute") => `(tactic| (k_here; (with_reducible show wpAny _ _ (eval (Expr.Call (Expr.Attribute _ _ _) [Expr.Starred _ _] [] _) _) _ _ _); refine methodCall_star ?_))
local macro_rules | `(tactic| walk_at "getAttr ref") => `(tactic| (k_here; k_dflt (refine' get_sm ?k1 ?k2 ?k4 ?k5 ?k6 ?k7 ?k8 ?k9 ?k10 ?k11 ?k12 ?k13 ?_; (case k4 => k_inst); (case k1 => k_asm); (case k2 => k_asm); (case k5 => k_is); (case k6 => k_is); (case k7 => k_is); (case k8 => k_is); (case k9 => k_is); (case k10 => decide +kernel); (case k11 => k_get); (case k12 => k_is); (case k13 => k_handed); k_whole)))
local macro_rules | `(tactic| k_inst) => `(tactic| (refine' inst_fz ?F ?I; (case F => k_asm); (case I => with_reducible assumption)))
local macro_rules | `(tactic| k_steps) => `(tactic| repeat' ((fail_if_success (with_reducible show wpAny _ _ (pyIter _) _ _ _)); (fail_if_success (with_reducible show wpAny _ _ (exec (Stmt.While _ _ _ _) _) _ _ _)); first | (k_unfold; (try dsimp only)) | (k_end; wrow_close) | walk1 | (dsimp only; walk1) | (dsimp only; k_unfold; (try dsimp only)) | fail "no step"))
local macro_rules | `(tactic| ktr_room) => `(tactic| (simp only [Around.deeper, Around.in1, Around.mark, recursionLimit] at *; omega))
local macro_rules | `(tactic| ktr_units) => `(tactic| (have hcL9 := cLine_is; simp only [Around.deeper, Around.in1, Around.mark] at *; omega))
local macro_rules | `(tactic| ktr_enter) => `(tactic| (refine wpAny_call ?_; first
  | (refine' code_fz ?k3 ?k5 ?k6 ?k7 ?k8 ?k9 ?kB ?_ ?c2 ?c3 ?c4 ?c5; (case k3 => k_asm); (case k5 => k_asm); (case k6 => k_is); (case k7 => k_is); (case k8 => ktr_room); (case k9 => first | exact BindsTo.of_eq rfl | exact binds_K (by k_in) rfl (by k_is) rfl rfl rfl); (case c5 => decide); (case kB => exact locs rfl); (case c2 => exact rfl); (case c3 => exact rfl); (case c4 => exact rfl); k_whole; intro L' h' F' N'; (try dsimp only); (try k_fold))
  | (refine' code_fzR ?k3 ?k5 ?k6 ?k7 ?k8 ?kV ?kP ?kG ?kB ?_ ?c2 ?c3 ?c4 ?c5; (case k3 => k_asm); (case k5 => k_asm); (case k6 => k_is); (case k7 => k_is); (case k8 => ktr_room); (case kV => kl_lit); (case kP => exact rfl); (case kG => exact fun _ => rfl); (case kB => exact fun _ => locs rfl); (case c5 => decide); (case c2 => exact rfl); (case c3 => exact rfl); (case c4 => exact rfl); k_whole; intro D' L' h' tk' F' N'; (try dsimp only); (try k_fold))
  | (refine' code_fzC ?k3 ?k5 ?k6 ?k7 ?k8 ?k9 ?kB ?kD ?_ ?c2 ?c3 ?c4; (case k3 => k_asm); (case k5 => k_asm); (case k6 => k_is); (case k7 => k_is); (case k8 => ktr_room); (case k9 => first | exact BindsTo.of_eq rfl | exact binds_K (by k_in) rfl (by k_is) rfl rfl rfl); (case kB => exact rfl); (case kD => decide +kernel); (case c2 => exact rfl); (case c3 => exact rfl); (case c4 => exact rfl); k_whole; intro L' h' tk' cells' F' N' Y'; k_cells Y'; (try simp only [List.cons_append, List.nil_append] at N'); (try dsimp only); (try k_fold))
  | (refine' code_fzRC ?k3 ?k5 ?k6 ?k7 ?k8 ?kV ?kP ?kG ?kB ?kD ?_ ?c2 ?c3 ?c4; (case k3 => k_asm); (case k5 => k_asm); (case k6 => k_is); (case k7 => k_is); (case k8 => ktr_room); (case kV => kl_lit); (case kP => exact rfl); (case kG => exact fun _ => rfl); (case kB => exact fun _ => rfl); (case kD => decide +kernel); (case c2 => exact rfl); (case c3 => exact rfl); (case c4 => exact rfl); k_whole; intro D' L' h' tk' cells' F' N' Y'; k_cells Y'; (try simp only [List.cons_append, List.nil_append] at N'); (try dsimp only); (try k_fold))))
theorem fill_C5 (w : World) : Mine.hd.heap_39 w.params = Mine.hd.heap_39 w.params ∧ PySem.Challenge.rw_fq5040_01 = PySem.Challenge.rw_fq5040_01 := by
  w_top off
  k_fill
  exact ⟨rfl, rfl⟩
set_option maxRecDepth 100000
set_option maxHeartbeats 4000000
local macro_rules | `(tactic| walk_at "call builtin:min") => `(tactic| (k_here; (with_reducible show wpAny _ _ (call (Value.builtin _) [Value.int _ _, Value.int _ _, Value.int _ _]) _ _ _); (with_unfolding_all refine' min3_N ?k1 ?k2 ?k3 ?_; (case k1 => rfl); (case k2 => k_asm); (case k3 => k_asm)); intro v' h' tk' F' N'; (try k_sweep)))
local macro_rules | `(tactic| walk_at "call builtin:min") => `(tactic| (k_here; (with_reducible show wpAny _ _ (call (Value.builtin _) [Value.int _ _, Value.int _ _]) _ _ _); (with_unfolding_all refine' min2_N ?k1 ?k2 ?k3 ?_; (case k1 => rfl); (case k2 => k_asm); (case k3 => k_asm)); intro v' h' tk' F' N'; (try k_sweep)))
local macro_rules | `(tactic| walk_at "call builtin:max") => `(tactic| (k_here; (with_reducible show wpAny _ _ (call (Value.builtin _) [Value.int _ _, Value.int _ _]) _ _ _); (with_unfolding_all refine' max2_N ?k1 ?k2 ?k3 ?_; (case k1 => rfl); (case k2 => k_asm); (case k3 => k_asm)); intro v' h' tk' F' N'; (try k_sweep)))
local macro_rules | `(tactic| walk_at "call ref") => `(tactic| (k_here; (refine' use_ident ?k1 ?k2 ?k3 ?k4 ?k5 ?k6 ?_; (case k1 => k_asm); (case k2 => k_asm); (case k3 => k_asm); (case k4 => k_asm); (case k5 => rfl); (case k6 => ktr_room); intro h' tk' F' N'; (try k_sweep))))
theorem con_cy {w : World} {A : Around} {s : Shared} {p : Program} {loose : List Str} {mean : ExcName → Option Value} {mg mb : Str → Option Value} {Q E : Value → Shared → Prop} {self dx : Addr} {t1 t2 t3 t4 : Tok} {x y : Str} {t u : Tok}
    (X : (Mine.hd.heap_39 w.params).In s.heap) (T : Top p loose mean mg mb s.heap) (hA : A.handled = none) (hd : A.depth + 2 < recursionLimit)
    (hx : x.length ≤ 100) (hy : y.length ≤ 100)
    (I : InstAt s.heap self (instObj 222 dx) 222 (some (dictOf (levEs w t1 t2 t3 t4) 3)))
    (hret : ∀ a h' tk', Keep s.heap h' → Q (.int (dist (like x y) x.length y.length) a) { s with heap := h', toks := tk' }) :
    wpAny (model PR w) A (call (.ref 212) [.ref self, .str x t, .str y u]) Q E s := by
  obtain ⟨hh, dp, fr, gd, un⟩ := A
  subst hA
  ktr_enter
  k_steps
  rename Fr _ _ _ _ => F1
  rename News _ _ _ _ => N1
  rename IsRange _ _ _ _ _ _ _ _ => R1
  rename IntsAre _ _ => I1
  refine iter_range (n := x.length) (fun i m news => ∃ cA n cv ns, news = [(cA, W.listOf cv.toArray n)] ∧ IntsAre cv ns ∧ ns.length = y.length + 1 ∧ (∀ j : Nat, j ≤ y.length → ns.getD j 0 = dist (like x y) i j) ∧
    m "self" = some (.ref self) ∧ m "s1" = some (.str x t) ∧ m "s2" = some (.str y u) ∧ (∃ a, m "cols" = some (.int (y.length + 1) a)) ∧ m "cur" = some (.ref cA)) rfl R1 (by omega) (by omega) (by split <;> omega) F1 N1 ?_ ?_ ?_
  · refine ⟨_, _, _, _, rfl, I1, ?_, ?_, rfl, rfl, rfl, ⟨_, rfl⟩, rfl⟩
    · rw [rangeKs_length]; omega
    · intro j hj
      rw [dist_zero, rangeKs_getD (by omega)]
      omega
  · clear F1 N1 R1 I1
    rintro i m₁ news₁ h2 tk2 t2' I2 o2 hi ⟨cA, n, cv, ns, rfl, hcv, hlen, hval, e1, e2, e3, ⟨ac, e4⟩, e5⟩ hne F2 N2
    have F3 := fr_give F2 (x := "self") (v := .ref self) (by exact e1)
    have F4 := fr_give F3 (x := "s1") (v := .str x t) (by exact e2)
    have F5 := fr_give F4 (x := "s2") (v := .str y u) (by exact e3)
    have F6 := fr_give F5 (x := "cols") (v := .int (y.length + 1) ac) (by exact e4)
    have F7 := fr_give F6 (x := "cur") (v := .ref cA) (by exact e5)
    clear F2 F3 F4 F5 F6
    have hne1 : @Ne Nat cA I2 := hne _ (.head _)
    simp only [List.cons_append, List.nil_append] at N2
    k_steps
    rename Fr _ _ _ _ => F8
    rename News _ _ _ _ => N8
    rename IsRange _ _ _ _ _ _ _ _ => R8
    rename IntsAre _ (_ ++ _) => I8
    obtain ⟨D1, ws, n1, M, hD1, hD2, N9, I9, F9, c1, c2, c3, c4, c5, c6, c7⟩ : ∃ D1 ws n1 M, @LT.lt Nat _ cA D1 ∧ @LT.lt Nat _ I2 D1 ∧ News _ _ _ [(D1, W.listOf (List.toArray ws) n1), (cA, W.listOf cv.toArray n), (I2, o2)] ∧ IntsAre ws _ ∧ Fr _ _ _ M ∧
        M "self" = some (.ref self) ∧ M "s1" = some (.str x t) ∧ M "s2" = some (.str y u) ∧ (∃ a, M "cols" = some (.int (y.length + 1) a)) ∧ M "cur" = some (.ref D1) ∧ M "prev" = some (.ref cA) ∧ ∃ a, M "r" = some (.int (1 + (i : Int)) a) :=
      ⟨_, _, _, _, by omega, by omega, news_pick N8 (.tail _ (.head _)) (news_pick N8 (by k_mem) (news_pick N8 (by k_mem) News.nil)), I8, F8, rfl, rfl, rfl, ⟨_, rfl⟩, rfl, rfl, ⟨_, rfl⟩⟩
    refine iter_range (n := y.length) (fun k m news => ∃ n2 cv2 ns2, news = [(D1, W.listOf (List.toArray cv2) n2), (cA, W.listOf cv.toArray n), (I2, o2)] ∧ IntsAre cv2 ns2 ∧ ns2.length = y.length + 1 ∧ (∀ j : Nat, j ≤ k → ns2.getD j 0 = dist (like x y) (i + 1) j) ∧
      m "self" = some (.ref self) ∧ m "s1" = some (.str x t) ∧ m "s2" = some (.str y u) ∧ (∃ a, m "cols" = some (.int (y.length + 1) a)) ∧ m "cur" = some (.ref D1) ∧ m "prev" = some (.ref cA) ∧ ∃ a, m "r" = some (.int (1 + (i : Int)) a)) rfl R8 (by omega) (by omega) (by split <;> omega) F9 N9 ?_ ?_ ?_
    · refine ⟨_, _, _, rfl, I9, ?_, ?_, c1, c2, c3, c4, c5, c6, c7⟩
      · simp only [List.length_append, List.length_cons, List.length_nil, flat_len]; omega
      · intro j hj
        obtain rfl : j = 0 := by omega
        rw [dist_left]
        show (1 + (i : Int)) = _
        omega
    · clear F8 F9 N8 N9 R8 I8 I9 e1 e2 e3 e4 e5 c1 c2 c3 c4 c5 c6 c7
      rintro k m₁ news₁ h3 tk3 t3' I3 o3 hk ⟨n2, cv2, ns2, rfl, hcv2, hlen2, hval2, e1, e2, e3, ⟨ac, e4⟩, e5, e6, ⟨ar, e7⟩⟩ hne2 F2 N2
      have F3 := fr_give F2 (x := "self") (v := .ref self) (by exact e1)
      have F4 := fr_give F3 (x := "s1") (v := .str x t) (by exact e2)
      have F5 := fr_give F4 (x := "s2") (v := .str y u) (by exact e3)
      have F6 := fr_give F5 (x := "cols") (v := .int (y.length + 1) ac) (by exact e4)
      have F7 := fr_give F6 (x := "cur") (v := .ref D1) (by exact e5)
      have F8 := fr_give F7 (x := "prev") (v := .ref cA) (by exact e6)
      have F9 := fr_give F8 (x := "r") (v := .int (1 + (i : Int)) ar) (by exact e7)
      clear F2 F3 F4 F5 F6 F7 F8
      have hne3 : @Ne Nat D1 I3 := hne2 _ (.head _)
      have hne4 : @Ne Nat cA I3 := hne2 _ (.tail _ (.head _))
      have hne5 : @Ne Nat I2 I3 := hne2 _ (.tail _ (.tail _ (.head _)))
      simp only [List.cons_append, List.nil_append] at N2
      k_steps
      rename Fr _ _ _ _ => F10
      rename News _ _ _ _ => N10
      rename IntsAre (List.set _ _ _) _ => I10
      have q1 : (1 + (k : Int)).toNat = k + 1 := by omega
      have q2 : (1 + (k : Int) - 1).toNat = k := by omega
      have q3 : 1 + (k : Int) - 1 = k := by omega
      have q4 : 1 + (i : Int) - 1 = i := by omega
      rw [q1] at I10 N10
      refine ⟨_, _, _, _, rfl, F10, news_pick N10 (.head _) (news_pick N10 (by k_mem) (news_pick N10 (by k_mem) News.nil)), news_pick N10 (by k_mem) News.nil, ?_, ⟨_, _, _, rfl, I10, ?_, ?_, rfl, rfl, rfl, ⟨_, rfl⟩, rfl, rfl, ⟨_, rfl⟩⟩⟩
      · intro q hq p hp
        rw [List.mem_singleton.mp hp]
        simp only [List.mem_cons, List.not_mem_nil, or_false] at hq
        rcases hq with rfl | rfl | rfl <;> assumption
      · rw [List.length_set]; exact hlen2
      · refine cy_turn hval hval2 hk hlen2 ?_
        rw [q2, q3, q4]
        unfold like
        by_cases hq : Txt.item x (i : Int) = Txt.item y (k : Int) <;> simp [hq]
    · rintro m₂ news₂ h4 tk4 ⟨n2, cv2, ns2, rfl, hcv2, hlen2, hval2, e1, e2, e3, e4, e5, e6, e7⟩ F2 N2
      k_steps
      refine ⟨_, _, _, _, rfl, F2, news_pick N2 (.head _) News.nil, news_pick N2 (by k_mem) News.nil, ?_, ⟨_, _, _, _, rfl, hcv2, hlen2, hval2, e1, e2, e3, e4, e5⟩⟩
      intro q hq p hp
      rw [List.mem_singleton.mp hp, List.mem_singleton.mp hq]
      exact Nat.ne_of_gt hD2
  · clear F1 N1 R1 I1
    rintro m₂ news₂ h4 tk4 ⟨cA, n, cv, ns, rfl, hcv, hlen, hval, e1, e2, e3, ⟨ac, e4⟩, e5⟩ F2 N2
    have F3 := fr_give F2 (x := "cur") (v := .ref cA) (by exact e5)
    clear F2
    k_steps
    rename Fr _ _ _ _ => F4
    have e : ns.getD (-1 + (ns.length : Int)).toNat 0 = dist (like x y) x.length y.length := by
      rw [hlen, show (-1 + ((y.length + 1 : Nat) : Int)).toNat = y.length from by omega]
      exact hval _ (Nat.le_refl _)
    rw [e]
    exact hret _ _ _ F4.keep
theorem use_cy {w : World} {A : Around} {s : Shared} {p : Program} {loose : List Str} {mean : ExcName → Option Value} {mg mb : Str → Option Value} {Q E : Value → Shared → Prop} {x y : Str} {t u : Tok} {h₀ : Heap} {L : Addr} {m : Str → Option Value} {news : List (Addr × Obj)} {self dx : Addr} {t1 t2 t3 t4 : Tok}
    (F : Fr h₀ L s.heap m) (N : News h₀ L s.heap news) (X : (Mine.hd.heap_39 w.params).In h₀) (T : Top p loose mean mg mb h₀) (hA : A.handled = none) (hd : A.depth + 2 < recursionLimit)
    (hx : x.length ≤ 100) (hy : y.length ≤ 100)
    (I : InstAt s.heap self (instObj 222 dx) 222 (some (dictOf (levEs w t1 t2 t3 t4) 3)))
    (h : ∀ a h' tk', Fr h₀ L h' m → News h₀ L h' news → Q (.int (dist (like x y) x.length y.length) a) { s with heap := h', toks := tk' }) :
    wpAny (model PR w) A (call (.ref 212) [.ref self, .str x t, .str y u]) Q E s :=
  con_cy (X.keeps F.keep) (T.keeps F.keep) hA hd hx hy I fun v h' tk' k => h v h' tk' (F.keeps k) (N.grown k)

end Mine
end
-- C6
section
open PySem PySem.W PySem.Calls PyProof.Rows
namespace Mine
local macro_rules | `(tactic| walk_at "eval Call Attribute") => `(tactic| (k_here; (with_reducible show wpAny _ _ (eval (Expr.Call (Expr.Attribute _ _ _) [Expr.Starred _ _] [] _) _) _ _ _); refine methodCall_star ?_))
local macro_rules | `(tactic| walk_at "getAttr ref") => `(tactic| (k_here; k_dflt (refine' get_sm ?k1 ?k2 ?k4 ?k5 ?k6 ?k7 ?k8 ?k9 ?k10 ?k11 ?k12 ?k13 ?_; (case k4 => k_inst); (case k1 => k_asm); (case k2 => k_asm); (case k5 => k_is); (case k6 => k_is); (case k7 => k_is); (case k8 => k_is); (case k9 => k_is); (case k10 => decide +kernel); (case k11 => k_get); (case k12 => k_is); (case k13 => k_handed); k_whole)))
local macro_rules | `(tactic| k_inst) => `(tactic| (refine' inst_fz ?F ?I; (case F => k_asm); (case I => with_reducible assumption)))
local macro_rules | `(tactic| k_steps) => `(tactic| repeat' ((fail_if_success (with_reducible show wpAny _ _ (pyIter _) _ _ _)); (fail_if_success (with_reducible show wpAny _ _ (exec (Stmt.While _ _ _ _) _) _ _ _)); first | (k_unfold; (try dsimp only)) | (k_end; wrow_close) | walk1 | (dsimp only; walk1) | (dsimp only; k_unfold; (try dsimp only)) | fail "no step"))
local macro_rules | `(tactic| ktr_room) => `(tactic| (simp only [Around.deeper, Around.in1, Around.mark, recursionLimit] at *; omega))
local macro_rules | `(tactic| ktr_units) => `(tactic| (have hcL9 := cLine_is; simp only [Around.deeper, Around.in1, Around.mark] at *; omega))
local macro_rules | `(tactic| ktr_enter) => `(tactic| ((try refine wpAny_call ?_); first
  | (refine' code_fz ?k3 ?k5 ?k6 ?k7 ?k8 ?k9 ?kB ?_ ?c2 ?c3 ?c4 ?c5; (case k3 => k_asm); (case k5 => k_asm); (case k6 => k_is); (case k7 => k_is); (case k8 => ktr_room); (case k9 => first | exact BindsTo.of_eq rfl | exact binds_K (by k_in) rfl (by k_is) rfl rfl rfl); (case c5 => decide); (case kB => exact locs rfl); (case c2 => exact rfl); (case c3 => exact rfl); (case c4 => exact rfl); k_whole; intro L' h' F' N'; (try dsimp only); (try k_fold))
  | (refine' code_fzR ?k3 ?k5 ?k6 ?k7 ?k8 ?kV ?kP ?kG ?kB ?_ ?c2 ?c3 ?c4 ?c5; (case k3 => k_asm); (case k5 => k_asm); (case k6 => k_is); (case k7 => k_is); (case k8 => ktr_room); (case kV => kl_lit); (case kP => exact rfl); (case kG => exact fun _ => rfl); (case kB => exact fun _ => locs rfl); (case c5 => decide); (case c2 => exact rfl); (case c3 => exact rfl); (case c4 => exact rfl); k_whole; intro D' L' h' tk' F' N'; (try dsimp only); (try k_fold))
  | (refine' code_fzC ?k3 ?k5 ?k6 ?k7 ?k8 ?k9 ?kB ?kD ?_ ?c2 ?c3 ?c4; (case k3 => k_asm); (case k5 => k_asm); (case k6 => k_is); (case k7 => k_is); (case k8 => ktr_room); (case k9 => first | exact BindsTo.of_eq rfl | exact binds_K (by k_in) rfl (by k_is) rfl rfl rfl); (case kB => exact rfl); (case kD => decide +kernel); (case c2 => exact rfl); (case c3 => exact rfl); (case c4 => exact rfl); k_whole; intro L' h' tk' cells' F' N' Y'; k_cells Y'; (try simp only [List.cons_append, List.nil_append] at N'); (try dsimp only); (try k_fold))
  | (refine' code_fzRC ?k3 ?k5 ?k6 ?k7 ?k8 ?kV ?kP ?kG ?kB ?kD ?_ ?c2 ?c3 ?c4; (case k3 => k_asm); (case k5 => k_asm); (case k6 => k_is); (case k7 => k_is); (case k8 => ktr_room); (case kV => kl_lit); (case kP => exact rfl); (case kG => exact fun _ => rfl); (case kB => exact fun _ => rfl); (case kD => decide +kernel); (case c2 => exact rfl); (case c3 => exact rfl); (case c4 => exact rfl); k_whole; intro D' L' h' tk' cells' F' N' Y'; k_cells Y'; (try simp only [List.cons_append, List.nil_append] at N'); (try dsimp only); (try k_fold))))
theorem fill_C6 (w : World) : Mine.hd.heap_39 w.params = Mine.hd.heap_39 w.params ∧ PySem.Challenge.rw_fq5040_01 = PySem.Challenge.rw_fq5040_01 := by
  w_top off
  k_fill
  exact ⟨rfl, rfl⟩
set_option maxRecDepth 100000
set_option maxHeartbeats 4000000
local macro_rules | `(tactic| walk_at "call ref") => `(tactic| (k_here; (refine' use_gs ?k1 ?k2 ?k3 ?k4 ?k5 ?k6 ?k7 ?k8 ?_; (case k1 => k_asm); (case k2 => k_asm); (case k3 => k_asm); (case k4 => k_asm); (case k5 => rfl); (case k6 => ktr_room); (case k8 => k_inst); (case k7 => first | exact .inl rfl | exact .inr rfl); intro D' n' h' tk' F' N' l1; (try k_lt l1); (try k_sweep))))
local macro_rules | `(tactic| walk_at "call ref") => `(tactic| (k_here; (refine' use_qa ?k1 ?k2 ?k3 ?k4 ?k5 ?k6 ?k7 ?k8 ?k9 ?g1 ?g2 ?g3; (case k1 => k_asm); (case k2 => k_asm); (case k3 => k_asm); (case k4 => k_asm); (case k5 => rfl); (case k6 => ktr_room); (case k7 => omega); (case k8 => omega); (case k9 => k_inst); (case' g1 => intro v' h' tk' e1 F' N'; (try k_sweep)); (case' g2 => intro v' h' tk' e1 e2 F' N'; (try k_sweep)); (case' g3 => intro h' tk' e1 e2 e3 F' N'; (try k_sweep)))))
local macro_rules | `(tactic| walk_at "call ref") => `(tactic| (k_here; (refine' use_cy ?k1 ?k2 ?k3 ?k4 ?k5 ?k6 ?k7 ?k8 ?k9 ?_; (case k1 => k_asm); (case k2 => k_asm); (case k3 => k_asm); (case k4 => k_asm); (case k5 => rfl); (case k6 => ktr_room); (case k7 => omega); (case k8 => omega); (case k9 => k_inst); intro v' h' tk' F' N'; (try k_sweep))))
theorem con_ca {w : World} {A : Around} {s : Shared} {p : Program} {loose : List Str} {mean : ExcName → Option Value} {mg mb : Str → Option Value} {Q E : Value → Shared → Prop} {self dx : Addr} {t1 t2 t3 t4 : Tok} {x y : Str} {t u : Tok}
    (X : (Mine.hd.heap_39 w.params).In s.heap) (T : Top p loose mean mg mb s.heap) (hA : A.handled = none) (hd : A.depth + 3 < recursionLimit)
    (hx : x.length ≤ 100) (hy : y.length ≤ 100)
    (I : InstAt s.heap self (instObj 222 dx) 222 (some (dictOf (levEs w t1 t2 t3 t4) 3)))
    (hret : ∀ a h' tk', Keep s.heap h' → Q (.int (dist (like x y) x.length y.length) a) { s with heap := h', toks := tk' }) :
    codeAny (model PR w) A (.call (.ref 219) ⟨[.ref self, .str x t, .str y u], []⟩) (fun r s' => match r with | .ok (.ret v) => Q v s' | .ok _ => False | .error e => E e s') s := by
  obtain ⟨hh, dp, fr, gd, un⟩ := A
  subst hA
  ktr_enter
  k_steps
  · rename Fr _ _ _ _ => F9
    exact hret _ _ _ F9.keep
  · rename Fr _ _ _ _ => F9
    rename _ ∨ _ => ho
    have e : ((max x.length y.length : Nat) : Int) = dist (like x y) x.length y.length := by
      rcases ho with ho | ho
      · rw [ho, dist_zero]; omega
      · rw [ho, dist_left]; omega
    rw [e]
    exact hret _ _ _ F9.keep
  · rename Fr _ _ _ _ => F9
    rename x = y => he
    have e : (0 : Int) = dist (like x y) x.length y.length := by
      rw [← he, dist_same _ fun k _ => like_self x k]; rfl
    rw [e]
    exact hret _ _ _ F9.keep
/-- a Levenshtein object called -/
theorem use_ca {w : World} {A : Around} {s : Shared} {p : Program} {loose : List Str} {mean : ExcName → Option Value} {mg mb : Str → Option Value} {Q E : Value → Shared → Prop} {x y : Str} {t u : Tok} {h₀ : Heap} {L : Addr} {m : Str → Option Value} {news : List (Addr × Obj)} {self dx : Addr} {t1 t2 t3 t4 : Tok}
    (F : Fr h₀ L s.heap m) (N : News h₀ L s.heap news) (X : (Mine.hd.heap_39 w.params).In h₀) (T : Top p loose mean mg mb h₀) (hA : A.handled = none) (hd : A.depth + 3 < recursionLimit)
    (hx : x.length ≤ 100) (hy : y.length ≤ 100)
    (I : InstAt s.heap self (instObj 222 dx) 222 (some (dictOf (levEs w t1 t2 t3 t4) 3)))
    (h : ∀ a h' tk', Fr h₀ L h' m → News h₀ L h' news → Q (.int (dist (like x y) x.length y.length) a) { s with heap := h', toks := tk' }) :
    wpAny (model PR w) A (call (.ref self) [.str x t, .str y u]) Q E s := by
  refine wpAny_call (kco_code (f := 219) (X.keeps F.keep) I rfl (by k_is) (by k_is) (by k_is) ?_)
  exact con_ca (X.keeps F.keep) (T.keeps F.keep) hA hd hx hy I fun v h' tk' k => h v h' tk' (F.keeps k) (N.grown k)

end Mine
end
-- C7
section
open PySem PySem.W PySem.Calls PyProof.Rows
namespace Mine
local macro_rules | `(tactic| walk_at "eval Call Attribute") => `(tactic| (k_here; (with_reducible show wpAny _ _ (eval (Expr.Call (Expr.Attribute _ _ _) [Expr.Starred _ _] [] _) _) _ _ _); refine methodCall_star ?_))
local macro_rules | `(tactic| walk_at "getAttr ref") => `(tactic| (k_here; k_dflt (refine' get_sm ?k1 ?k2 ?k4 ?k5 ?k6 ?k7 ?k8 ?k9 ?k10 ?k11 ?k12 ?k13 ?_; (case k4 => k_inst); (case k1 => k_asm); (case k2 => k_asm); (case k5 => k_is); (case k6 => k_is); (case k7 => k_is); (case k8 => k_is); (case k9 => k_is); (case k10 => decide +kernel); (case k11 => k_get); (case k12 => k_is); (case k13 => k_handed); k_whole)))
local macro_rules | `(tactic| k_inst) => `(tactic| (refine' inst_fz ?F ?I; (case F => k_asm); (case I => with_reducible assumption)))
local macro_rules | `(tactic| k_steps) => `(tactic| repeat' ((fail_if_success (with_reducible show wpAny _ _ (pyIter _) _ _ _)); (fail_if_success (with_reducible show wpAny _ _ (exec (Stmt.While _ _ _ _) _) _ _ _)); first | (k_unfold; (try dsimp only)) | (k_end; wrow_close) | walk1 | (dsimp only; walk1) | (dsimp only; k_unfold; (try dsimp only)) | fail "no step"))
local macro_rules | `(tactic| ktr_room) => `(tactic| (simp only [Around.deeper, Around.in1, Around.mark, recursionLimit] at *; omega))
local macro_rules | `(tactic| ktr_units) => `(tactic| (have hcL9 := cLine_is; simp only [Around.deeper, Around.in1, Around.mark] at *; omega))
local macro_rules | `(tactic| ktr_enter) => `(tactic| ((try refine wpAny_call ?_); first
  | (refine' code_fz ?k3 ?k5 ?k6 ?k7 ?k8 ?k9 ?kB ?_ ?c2 ?c3 ?c4 ?c5; (case k3 => k_asm); (case k5 => k_asm); (case k6 => k_is); (case k7 => k_is); (case k8 => ktr_room); (case k9 => first | exact BindsTo.of_eq rfl | exact binds_K (by k_in) rfl (by k_is) rfl rfl rfl); (case c5 => decide); (case kB => exact locs rfl); (case c2 => exact rfl); (case c3 => exact rfl); (case c4 => exact rfl); k_whole; intro L' h' F' N'; (try dsimp only); (try k_fold))
  | (refine' code_fzR ?k3 ?k5 ?k6 ?k7 ?k8 ?kV ?kP ?kG ?kB ?_ ?c2 ?c3 ?c4 ?c5; (case k3 => k_asm); (case k5 => k_asm); (case k6 => k_is); (case k7 => k_is); (case k8 => ktr_room); (case kV => kl_lit); (case kP => exact rfl); (case kG => exact fun _ => rfl); (case kB => exact fun _ => locs rfl); (case c5 => decide); (case c2 => exact rfl); (case c3 => exact rfl); (case c4 => exact rfl); k_whole; intro D' L' h' tk' F' N'; (try dsimp only); (try k_fold))
  | (refine' code_fzC ?k3 ?k5 ?k6 ?k7 ?k8 ?k9 ?kB ?kD ?_ ?c2 ?c3 ?c4; (case k3 => k_asm); (case k5 => k_asm); (case k6 => k_is); (case k7 => k_is); (case k8 => ktr_room); (case k9 => first | exact BindsTo.of_eq rfl | exact binds_K (by k_in) rfl (by k_is) rfl rfl rfl); (case kB => exact rfl); (case kD => decide +kernel); (case c2 => exact rfl); (case c3 => exact rfl); (case c4 => exact rfl); k_whole; intro L' h' tk' cells' F' N' Y'; k_cells Y'; (try simp only [List.cons_append, List.nil_append] at N'); (try dsimp only); (try k_fold))
  | (refine' code_fzRC ?k3 ?k5 ?k6 ?k7 ?k8 ?kV ?kP ?kG ?kB ?kD ?_ ?c2 ?c3 ?c4; (case k3 => k_asm); (case k5 => k_asm); (case k6 => k_is); (case k7 => k_is); (case k8 => ktr_room); (case kV => kl_lit); (case kP => exact rfl); (case kG => exact fun _ => rfl); (case kB => exact fun _ => rfl); (case kD => decide +kernel); (case c2 => exact rfl); (case c3 => exact rfl); (case c4 => exact rfl); k_whole; intro D' L' h' tk' cells' F' N' Y'; k_cells Y'; (try simp only [List.cons_append, List.nil_append] at N'); (try dsimp only); (try k_fold))))
theorem fill_C7 (w : World) : Mine.hd.heap_39 w.params = Mine.hd.heap_39 w.params ∧ PySem.Challenge.rw_fq5040_01 = PySem.Challenge.rw_fq5040_01 := by
  w_top off
  k_fill
  exact ⟨rfl, rfl⟩
set_option maxRecDepth 100000
set_option maxHeartbeats 4000000
local macro_rules | `(tactic| walk_at "call builtin:min") => `(tactic| (k_here; (with_reducible show wpAny _ _ (call (Value.builtin _) [Value.int _ _, Value.int _ _, Value.int _ _]) _ _ _); (with_unfolding_all refine' min3_N ?k1 ?k2 ?k3 ?_; (case k1 => rfl); (case k2 => k_asm); (case k3 => k_asm)); intro v' h' tk' F' N'; (try k_sweep)))
local macro_rules | `(tactic| walk_at "call builtin:min") => `(tactic| (k_here; (with_reducible show wpAny _ _ (call (Value.builtin _) [Value.int _ _, Value.int _ _]) _ _ _); (with_unfolding_all refine' min2_N ?k1 ?k2 ?k3 ?_; (case k1 => rfl); (case k2 => k_asm); (case k3 => k_asm)); intro v' h' tk' F' N'; (try k_sweep)))
local macro_rules | `(tactic| walk_at "call builtin:max") => `(tactic| (k_here; (with_reducible show wpAny _ _ (call (Value.builtin _) [Value.int _ _, Value.int _ _]) _ _ _); (with_unfolding_all refine' max2_N ?k1 ?k2 ?k3 ?_; (case k1 => rfl); (case k2 => k_asm); (case k3 => k_asm)); intro v' h' tk' F' N'; (try k_sweep)))
local macro_rules | `(tactic| walk_at "call ref") => `(tactic| (k_here; (refine' use_ident ?k1 ?k2 ?k3 ?k4 ?k5 ?k6 ?_; (case k1 => k_asm); (case k2 => k_asm); (case k3 => k_asm); (case k4 => k_asm); (case k5 => rfl); (case k6 => ktr_room); intro h' tk' F' N'; (try k_sweep))))
local macro_rules | `(tactic| walk_at "call ref") => `(tactic| (k_here; (refine' use_ca ?k1 ?k2 ?k3 ?k4 ?k5 ?k6 ?k7 ?k8 ?k9 ?_; (case k9 => k_inst); (case k1 => k_asm); (case k2 => k_asm); (case k3 => k_asm); (case k4 => k_asm); (case k5 => rfl); (case k6 => ktr_room); (case k7 => omega); (case k8 => omega); intro v' h' tk' F' N'; (try k_sweep))))
theorem con_re {w : World} {A : Around} {s : Shared} {p : Program} {loose : List Str} {mean : ExcName → Option Value} {mg mb : Str → Option Value} {Q E : Value → Shared → Prop} {self dx : Addr} {t1 t2 t3 t4 : Tok} {x y : Str} {t u : Tok}
    (X : (Mine.hd.heap_39 w.params).In s.heap) (T : Top p loose mean mg mb s.heap) (hA : A.handled = none) (hd : A.depth + 4 < recursionLimit)
    (hx : x.length ≤ 100) (hy : y.length ≤ 100)
    (I : InstAt s.heap self (instObj 222 dx) 222 (some (dictOf (levEs w t1 t2 t3 t4) 3)))
    (hret : ∀ a h' tk', Keep s.heap h' → Q (.int (dist (like x y) x.length y.length) a) { s with heap := h', toks := tk' }) :
    wpAny (model PR w) A (call (.ref 205) [.ref self, .str x t, .str y u]) Q E s := by
  obtain ⟨hh, dp, fr, gd, un⟩ := A
  subst hA
  ktr_enter
  k_steps
  · rename Fr _ _ _ _ => F9
    rename Txt.item _ _ = Txt.item _ _ => he
    rw [rec_like (by omega) (by omega) he]
    exact hret _ _ _ F9.keep
  · rename Fr _ _ _ _ => F9
    rename ¬ (Txt.item _ _ = Txt.item _ _) => he
    rw [rec_unlikeZ (by omega) (by omega) he]
    exact hret _ _ _ F9.keep
  · rename Fr _ _ _ _ => F9
    have e : (x.length : Int) + y.length = dist (like x y) x.length y.length := by
      rw [show y.length = 0 from by omega, dist_left]; omega
    rw [e]
    exact hret _ _ _ F9.keep
  · rename Fr _ _ _ _ => F9
    have e : (x.length : Int) + y.length = dist (like x y) x.length y.length := by
      rw [show x.length = 0 from by omega, dist_zero]; omega
    rw [e]
    exact hret _ _ _ F9.keep
theorem use_re {w : World} {A : Around} {s : Shared} {p : Program} {loose : List Str} {mean : ExcName → Option Value} {mg mb : Str → Option Value} {Q E : Value → Shared → Prop} {x y : Str} {t u : Tok} {h₀ : Heap} {L : Addr} {m : Str → Option Value} {news : List (Addr × Obj)} {self dx : Addr} {t1 t2 t3 t4 : Tok}
    (F : Fr h₀ L s.heap m) (N : News h₀ L s.heap news) (X : (Mine.hd.heap_39 w.params).In h₀) (T : Top p loose mean mg mb h₀) (hA : A.handled = none) (hd : A.depth + 4 < recursionLimit)
    (hx : x.length ≤ 100) (hy : y.length ≤ 100)
    (I : InstAt s.heap self (instObj 222 dx) 222 (some (dictOf (levEs w t1 t2 t3 t4) 3)))
    (h : ∀ a h' tk', Fr h₀ L h' m → News h₀ L h' news → Q (.int (dist (like x y) x.length y.length) a) { s with heap := h', toks := tk' }) :
    wpAny (model PR w) A (call (.ref 205) [.ref self, .str x t, .str y u]) Q E s :=
  con_re (X.keeps F.keep) (T.keeps F.keep) hA hd hx hy I fun v h' tk' k => h v h' tk' (F.keeps k) (N.grown k)

end Mine
end
-- C9
section
open PySem PySem.W PySem.Calls PyProof.Rows
namespace Mine
local macro_rules | `(tactic| walk_at "eval Call Attribute") => `(tactic| (k_here; (with_reducible show wpAny _ _ (eval (Expr.Call (Expr.Attribute _ _ _) [Expr.Starred _ _] [] _) _) _ _ _); refine methodCall_star ?_))
local macro_rules | `(tactic| walk_at "getAttr ref") => `(tactic| (k_here; k_dflt (refine' get_sm ?k1 ?k2 ?k4 ?k5 ?k6 ?k7 ?k8 ?k9 ?k10 ?k11 ?k12 ?k13 ?_; (case k4 => k_inst); (case k1 => k_asm); (case k2 => k_asm); (case k5 => k_is); (case k6 => k_is); (case k7 => k_is); (case k8 => k_is); (case k9 => k_is); (case k10 => decide +kernel); (case k11 => k_get); (case k12 => k_is); (case k13 => k_handed); k_whole)))
local macro_rules | `(tactic| k_inst) => `(tactic| (refine' inst_fz ?F ?I; (case F => k_asm); (case I => with_reducible assumption)))
local macro_rules | `(tactic| k_steps) => `(tactic| repeat' ((fail_if_success (with_reducible show wpAny _ _ (pyIter _) _ _ _)); (fail_if_success (with_reducible show LCg.CompSrc _ _ _ _ _ _ _ _ _ _ _ _ _ _)); (fail_if_success (with_reducible show wpAny _ _ (exec (Stmt.While _ _ _ _) _) _ _ _)); first | (k_unfold; (try dsimp only)) | (k_end; wrow_close) | walk1 | (dsimp only; walk1) | (dsimp only; k_unfold; (try dsimp only)) | fail "no step"))
local macro_rules | `(tactic| ktr_room) => `(tactic| (simp only [Around.deeper, Around.in1, Around.mark, recursionLimit] at *; omega))
local macro_rules | `(tactic| ktr_units) => `(tactic| (have hcL9 := cLine_is; simp only [Around.deeper, Around.in1, Around.mark] at *; omega))
local macro_rules | `(tactic| ktr_enter) => `(tactic| ((try refine wpAny_call ?_); first
  | (refine' code_fz ?k3 ?k5 ?k6 ?k7 ?k8 ?k9 ?kB ?_ ?c2 ?c3 ?c4 ?c5; (case k3 => k_asm); (case k5 => k_asm); (case k6 => k_is); (case k7 => k_is); (case k8 => ktr_room); (case k9 => first | exact BindsTo.of_eq rfl | exact binds_K (by k_in) rfl (by k_is) rfl rfl rfl); (case c5 => decide); (case kB => exact locs rfl); (case c2 => exact rfl); (case c3 => exact rfl); (case c4 => exact rfl); k_whole; intro L' h' F' N'; (try dsimp only); (try k_fold))
  | (refine' code_fzR ?k3 ?k5 ?k6 ?k7 ?k8 ?kV ?kP ?kG ?kB ?_ ?c2 ?c3 ?c4 ?c5; (case k3 => k_asm); (case k5 => k_asm); (case k6 => k_is); (case k7 => k_is); (case k8 => ktr_room); (case kV => kl_lit); (case kP => exact rfl); (case kG => exact fun _ => rfl); (case kB => exact fun _ => locs rfl); (case c5 => decide); (case c2 => exact rfl); (case c3 => exact rfl); (case c4 => exact rfl); k_whole; intro D' L' h' tk' F' N'; (try dsimp only); (try k_fold))
  | (refine' code_fzC ?k3 ?k5 ?k6 ?k7 ?k8 ?k9 ?kB ?kD ?_ ?c2 ?c3 ?c4; (case k3 => k_asm); (case k5 => k_asm); (case k6 => k_is); (case k7 => k_is); (case k8 => ktr_room); (case k9 => first | exact BindsTo.of_eq rfl | exact binds_K (by k_in) rfl (by k_is) rfl rfl rfl); (case kB => exact rfl); (case kD => decide +kernel); (case c2 => exact rfl); (case c3 => exact rfl); (case c4 => exact rfl); k_whole; intro L' h' tk' cells' F' N' Y'; k_cells Y'; (try simp only [List.cons_append, List.nil_append] at N'); (try dsimp only); (try k_fold))
  | (refine' code_fzRC ?k3 ?k5 ?k6 ?k7 ?k8 ?kV ?kP ?kG ?kB ?kD ?_ ?c2 ?c3 ?c4; (case k3 => k_asm); (case k5 => k_asm); (case k6 => k_is); (case k7 => k_is); (case k8 => ktr_room); (case kV => kl_lit); (case kP => exact rfl); (case kG => exact fun _ => rfl); (case kB => exact fun _ => rfl); (case kD => decide +kernel); (case c2 => exact rfl); (case c3 => exact rfl); (case c4 => exact rfl); k_whole; intro D' L' h' tk' cells' F' N' Y'; k_cells Y'; (try simp only [List.cons_append, List.nil_append] at N'); (try dsimp only); (try k_fold))))
theorem fill_C9 (w : World) : Mine.hd.heap_39 w.params = Mine.hd.heap_39 w.params ∧ PySem.Challenge.rw_fq5040_01 = PySem.Challenge.rw_fq5040_01 := by
  w_top off
  k_fill
  exact ⟨rfl, rfl⟩
set_option maxRecDepth 100000
set_option maxHeartbeats 4000000
local macro_rules | `(tactic| walk_at "call builtin:max") => `(tactic| (k_here; (with_reducible show wpAny _ _ (call (Value.builtin _) [Value.int _ _, Value.int _ _]) _ _ _); (with_unfolding_all refine' max2_N ?k1 ?k2 ?k3 ?_; (case k1 => rfl); (case k2 => k_asm); (case k3 => k_asm)); intro v' h' tk' F' N'; (try k_sweep)))
local macro_rules | `(tactic| walk_at "subscriptTail") => `(tactic| (k_here; (with_reducible show wpAny _ _ (subscriptTail _ _ (Value.ref _) (Value.int _ _)) _ _ _); first
  | (refine' tab_row ?k1 ?k2 ?k3 ?k4 ?k5 ?_ ?k6; (case k1 => k_asm); (case k2 => k_mem); (case k3 => omega); (case k4 => omega); (case k5 => omega); (case k6 => with_unfolding_all rfl); intro a' ha')
  | (refine' tab_val ?k1 ?k2 ?k7 ?k8 ?k3 ?k4 ?k5 ?_ ?k6; (case k1 => k_asm); (case k2 => with_reducible assumption); (case k8 => with_reducible assumption); (case k7 => first | exact rows_in | exact rows_in0); (case k3 => omega); (case k4 => omega); (case k5 => omega); (case k6 => with_unfolding_all rfl); intro t')))
local macro_rules | `(tactic| walk_at "setItem ref int") => `(tactic| (k_here; (refine' tab_set ?k1 ?k2 ?k3 ?k4 ?k5 ?k6 ?k7 ?k8 ?k9 ?_; (case k1 => k_asm); (case k2 => k_asm); (case k3 => with_reducible assumption); (case k4 => with_reducible assumption); (case k5 => with_reducible assumption); (case k6 => with_reducible assumption); (case k7 => omega); (case k8 => omega); (case k9 => omega); intro h' rows' F' N' TB')))
theorem con_dyC {w : World} {A : Around} {s : Shared} {p : Program} {loose : List Str} {mean : ExcName → Option Value} {mg mb : Str → Option Value} {Q E : Value → Shared → Prop} {self dx : Addr} {t1 t2 t3 t4 : Tok} {x y : Str} {t u : Tok}
    (X : (Mine.hd.heap_39 w.params).In s.heap) (T : Top p loose mean mg mb s.heap) (hA : A.handled = none) (hd : A.depth + 4 < recursionLimit)
    (hx : x.length ≤ 100) (hy : y.length ≤ 100)
    (I : InstAt s.heap self (instObj 266 dx) 266 (some (dictOf (levEs w t1 t2 t3 t4) 3)))
    (hret : ∀ r a h' tk', r.length = lcs (like x y) x.length y.length → Keep s.heap h' → Q (.str r a) { s with heap := h', toks := tk' }) :
    codeAny (model PR w) A (.call (.ref 244) ⟨[.ref self, .str x t, .str y u], []⟩) (fun r s' => match r with | .ok (.ret v) => Q v s' | .ok _ => False | .error e => E e s') s := by
  obtain ⟨hh, dp, fr, gd, un⟩ := A
  subst hA
  ktr_enter
  rename_i Lc hc tkc Fc oc dc Nc
  k_steps
  rename Fr _ _ _ _ => F1
  rename News _ _ _ _ => N1
  rename IsRange _ _ _ _ _ _ _ _ => R1
  refine LCg.CompSrc.range (n := x.length + 1) rfl F1 N1 R1 (small_one (by omega) (by omega) (by omega) (by omega)) (by unfold Builtin.Range.rangeSize; split <;> first | omega | (simp_all; try omega)) (by rw [PySem.sizeLine_eq]; omega) ?_
  intro g
  refine rows_rest (k := y.length + 1) ?_ ?_
  · clear F1 N1 R1
    intro v I1 oI C1 oC D1 m₂ ys h5 tk5 acc E5 hC hv F2 N2 off ne
    simp only [List.cons_append, List.nil_append] at N2 off
    simp only [LCg.Off3, and_true] at off
    k_steps
    rename Fr _ _ _ _ => F8
    rename News _ _ _ _ => N8
    rename IntsAre _ _ => I8
    rename_i lt8
    have q1 : ((y.length : Int) + 1).toNat = y.length + 1 := by omega
    rw [q1] at I8 N8
    have N9 := news_pick N8 (.tail _ (.tail _ (.head _))) (news_pick N8 (.tail _ (.tail _ (.tail _ (.head _)))) (news_pick N8 (.tail _ (.tail _ (.tail _ (.tail _ (.head _))))) (news_pick N8 (.tail _ (.tail _ (.tail _ (.tail _ (.tail _ (.head _)))))) (news_pick N8 (.head _) (news_tail N8 (.tail _ (.tail _ (.tail _ (.tail _ (.tail _ (.tail _ .rfl)))))))))))
    refine ⟨_, _, _, rfl, F8, N9, ?_, trivial, _, _, rfl, rfl, ⟨_, _, _, rfl, I8, flat_len _, ?_⟩, ?_⟩
    · simp only [LCg.Off3]
      exact ⟨⟨by omega, by omega, by omega⟩, ⟨by omega, by omega, by omega⟩, off.2⟩
    · intro j hj
      exact flat_zero hj
    · intro p hp
      rcases List.mem_cons.mp hp with rfl | hp
      · exact Nat.ne_of_lt (by omega)
      · exact Nat.ne_of_lt (allLt_mem (by have := lt8.2.2.2.2.2; exact this) p hp)
  · intro rows hlen hnd hrow hne D2 h5 tk5 F2 N2 off
    clear F1 N1 R1
    have N3 := news_sub N2 (table_in rows)
    clear N2
    obtain ⟨as, has⟩ : ∃ as, as = rows.map (·.1) := ⟨_, rfl⟩
    have hnd2 : as.Nodup := has ▸ hnd
    have TB : Tab (y.length + 1) (part (like x y) 0 0) as rows := by
      refine ⟨has.symm, fun i p hp => ?_⟩
      have e : part (like x y) 0 0 i = fun _ => 0 := funext fun b => part_zero
      rw [e]
      exact hrow p (List.mem_of_getElem? hp)
    have hal : as.length = x.length + 1 := by rw [has, List.length_map, hlen]
    obtain ⟨hap, hcD⟩ := table_apart (o := LCg.lst (as.map Value.ref)) has hne off
    rw [← has] at N3
    clear off hne hrow hnd
    k_steps
    rename Fr _ _ _ _ => F4
    rename News _ _ _ _ => N4
    rename PairSrcL _ _ _ _ _ _ _ _ _ _ _ _ => S1
    refine S1.at _ rfl _ _ _ _ (fun i m news => ∃ rows, news = (D2, LCg.lst (as.map Value.ref)) :: (Lc + 1, oc) :: rows ∧ Tab (y.length + 1) (part (like x y) i 0) as rows ∧ m "self" = some (.ref self) ∧ m "seq1" = some (.str x t) ∧ m "lengths" = some (.ref D2)) ?_ ?_ ?_
    · exact ⟨_, rfl, TB, rfl, rfl, rfl⟩
    · clear F4 N4 S1 TB N3
      rintro i a ti v m₁ news₁ s₁ own ⟨h6, tk6, rfl⟩ hga ⟨tv, rfl⟩ ⟨rows, rfl, TB, e1, e2, e3⟩ hsame hown F2 N2
      have F3 := fr_give F2 (x := "self") (v := .ref self) (by exact e1)
      have F4 := fr_give F3 (x := "seq1") (v := .str x t) (by exact e2)
      have F5 := fr_give F4 (x := "lengths") (v := .ref D2) (by exact e3)
      clear F2 F3 F4
      have N5 := news_sub N2 (table_own own)
      obtain ⟨hi, hitem⟩ := signs_item hga
      have hap2 : Apart as own := apart_own has.symm hown
      k_steps
      rename Fr _ _ _ _ => F6
      rename News _ _ _ _ => N6
      rename PairSrcL _ _ _ _ _ _ _ _ _ _ _ _ => S6
      refine S6.at _ rfl _ _ _ _ (fun k m news => ∃ rows', news = (D2, LCg.lst (as.map Value.ref)) :: (Lc + 1, oc) :: (rows' ++ own) ∧ Tab (y.length + 1) (part (like x y) i k) as rows' ∧ m "self" = some (.ref self) ∧ m "seq1" = some (.str x t) ∧ m "lengths" = some (.ref D2) ∧ m "char1" = some (.str a tv) ∧ m "i" = some (.int i ti)) ?_ ?_ ?_
      · exact ⟨_, rfl, TB, rfl, rfl, rfl, rfl, rfl⟩
      · have hrows := TB.1
        clear F6 N6 S6 TB N2 e1 e2 e3
        try clear N5
        rintro k b tk9 v m₁ news₁ s₁ own2 ⟨h7, tk7, rfl⟩ hgb ⟨tw, rfl⟩ ⟨rows', rfl, TB, e1, e2, e3, e4, e5⟩ hsame2 hown2 F2 N2
        have F3 := fr_give F2 (x := "self") (v := .ref self) (by exact e1)
        have F4 := fr_give F3 (x := "seq1") (v := .str x t) (by exact e2)
        have F5 := fr_give F4 (x := "lengths") (v := .ref D2) (by exact e3)
        have F6 := fr_give F5 (x := "char1") (v := .str a tv) (by exact e4)
        have F7 := fr_give F6 (x := "i") (v := .int i ti) (by exact e5)
        clear F2 F3 F4 F5 F6
        have N5 := news_sub N2 (table_own2 own own2)
        clear N2
        obtain ⟨hk, hitem2⟩ := signs_item hgb
        have hap3 : Apart as own2 := apart_own2 hrows hown2
        have hap4 := apart_all hap hap2 hap3
        have hq : a = b → like x y i k = true := by rw [hitem, hitem2]; simp [like]
        have hq' : ¬ a = b → like x y i k = false := by rw [hitem, hitem2]; simp [like]
        k_steps
        · rename Fr _ _ _ _ => F8
          rename News _ _ _ _ => N8
          rename Tab _ _ _ _ => TB8
          have TB9 := dy_like (hq (by first | assumption | simp_all)) TB8
          exact LoopStep3.of2 (LoopStep2.intro F8 (news_sub N8 (table_back2 own own2)) (same_own TB9.1 TB.1) ⟨_, rfl, TB9, rfl, rfl, rfl, rfl, rfl⟩)
        · rename Fr _ _ _ _ => F8
          rename News _ _ _ _ => N8
          rename Tab _ _ _ _ => TB8
          have TB9 := dy_unlike (hq' (by first | assumption | simp_all)) TB8
          exact LoopStep3.of2 (LoopStep2.intro F8 (news_sub N8 (table_back2 own own2)) (same_own TB9.1 TB.1) ⟨_, rfl, TB9, rfl, rfl, rfl, rfl, rfl⟩)
      · clear F6 N6 S6 N2 e1 e2 e3
        try clear N5
        rintro h7 tk7 m₁ news₁ F2 N2 hsame3 ⟨rows', rfl, TB7, e1, e2, e3, e4, e5⟩
        k_steps
        have TB9 : Tab (y.length + 1) (part (like x y) (i + 1) 0) as rows' := TB7.congr fun a _ b hb => by rw [signs_length]; exact part_next hb
        exact LoopStep3.of2 (LoopStep2.intro F2 (news_sub N2 (table_back own)) (same_rows TB9.1 TB.1) ⟨_, rfl, TB9, e1, e2, e3⟩)
    · clear F4 N4 S1 N3 TB
      rintro h6 tk6 m₁ news₁ F2 N2 hsame ⟨rows, rfl, TB, e1, e2, e3⟩
      rw [signs_length] at TB
      have F3 := fr_give F2 (x := "self") (v := .ref self) (by exact e1)
      have F4 := fr_give F3 (x := "seq1") (v := .str x t) (by exact e2)
      have F5 := fr_give F4 (x := "lengths") (v := .ref D2) (by exact e3)
      clear F2 F3 F4
      k_steps
      rename Fr _ _ _ _ => F8
      rename News _ _ _ _ => N8
      have N9 : News _ _ _ ((D2, LCg.lst (as.map Value.ref)) :: (Lc + 1, oc) :: rows) := news_tail N8 (.tail _ .rfl)
      obtain ⟨hb1, hb2⟩ := lcs_le (like x y) _ x.length y.length (Nat.le_refl _)
      refine While_inv2 (n₀ := x.length + y.length) (fun n m news => news = (D2, LCg.lst (as.map Value.ref)) :: (Lc + 1, oc) :: rows ∧ ∃ (i j : Nat) (r : Str) (t1 t2 t3 : Tok), i ≤ x.length ∧ j ≤ y.length ∧ n = i + j ∧ r.length + lcs (like x y) i j = lcs (like x y) x.length y.length ∧
        m "seq1" = some (.str x t) ∧ m "lengths" = some (.ref D2) ∧ m "i" = some (.int i t1) ∧ m "j" = some (.int j t2) ∧ m "result" = some (.str r t3)) F8 N9 ?_ ?_
      · exact ⟨rfl, _, _, _, _, _, _, Nat.le_refl _, Nat.le_refl _, rfl, Nat.zero_add _, rfl, rfl, rfl, rfl, rfl⟩
      · clear F5 F8 N2 N8 N9
        rintro n m₁ news₁ h7 tk7 F2 N2 ⟨rfl, i, j, r, t1, t2, t3, hi, hj, rfl, hr, e1, e2, e3, e4, e5⟩
        have F3 := fr_give F2 (x := "seq1") (v := .str x t) (by exact e1)
        have F4 := fr_give F3 (x := "lengths") (v := .ref D2) (by exact e2)
        have F5 := fr_give F4 (x := "i") (v := .int i t1) (by exact e3)
        have F6 := fr_give F5 (x := "j") (v := .int j t2) (by exact e4)
        have F7 := fr_give F6 (x := "result") (v := .str r t3) (by exact e5)
        clear F2 F3 F4 F5 F6
        k_steps
        · rename Fr _ _ _ _ => F8
          rename News _ _ _ _ => N8
          have g := bt_up hi (by assumption) (by assumption)
          have q1 : ((i - 1 : Nat) : Int) = (i : Int) - 1 := by omega
          exact ⟨_, _, _, _, _, rfl, F8, N8, by show i - 1 + j < i + j; omega, rfl, i - 1, j, r, _, _, _, by omega, hj, rfl, by omega, rfl, rfl, by rw [q1]; rfl, rfl, rfl⟩
        · rename Fr _ _ _ _ => F8
          rename News _ _ _ _ => N8
          have g := bt_left (by assumption) hi (by assumption)
          have q1 : ((j - 1 : Nat) : Int) = (j : Int) - 1 := by omega
          exact ⟨_, _, _, _, _, rfl, F8, N8, by show i + (j - 1) < i + j; omega, rfl, i, j - 1, r, _, _, _, hi, by omega, rfl, by omega, rfl, rfl, rfl, by rw [q1]; rfl, rfl⟩
        · rename Fr _ _ _ _ => F8
          rename News _ _ _ _ => N8
          have g := bt_diag (by assumption) (by assumption) hi (by assumption) (by assumption)
          have q1 : ((i - 1 : Nat) : Int) = (i : Int) - 1 := by omega
          have q2 : ((j - 1 : Nat) : Int) = (j : Int) - 1 := by omega
          exact ⟨_, _, _, _, _, rfl, F8, N8, by show i - 1 + (j - 1) < i + j; omega, rfl, i - 1, j - 1, _, _, _, _, by omega, by omega, rfl, by have := g.2; omega, rfl, rfl, by rw [q1]; rfl, by rw [q2]; rfl, rfl⟩
        · have g := (bt_diag (x := x) (y := y) (by assumption) (by assumption) hi (by assumption) (by assumption)).1
          simp_all
        · have e : lcs (like x y) i j = 0 := by rw [show j = 0 from by omega]; exact lcs_left _ _
          rw [e] at hr
          exact hret _ _ _ _ (by omega) F7.keep
        · have e : lcs (like x y) i j = 0 := by rw [show i = 0 from by omega]; exact lcs_zero _ _
          rw [e] at hr
          exact hret _ _ _ _ (by omega) F7.keep
theorem meth_dy {w : World} {A : Around} {s : Shared} {p : Program} {loose : List Str} {mean : ExcName → Option Value} {mg mb : Str → Option Value} {Q E : Value → Shared → Prop} {x y : Str} {t u : Tok} {h₀ : Heap} {L : Addr} {m : Str → Option Value} {news : List (Addr × Obj)} {self dx q : Addr} {t1 t2 t3 t4 : Tok}
    (F : Fr h₀ L s.heap m) (N : News h₀ L s.heap news) (X : (Mine.hd.heap_39 w.params).In h₀) (T : Top p loose mean mg mb h₀) (hA : A.handled = none) (hd : A.depth + 4 < recursionLimit)
    (hx : x.length ≤ 100) (hy : y.length ≤ 100)
    (I : InstAt s.heap self (instObj 266 dx) 266 (some (dictOf (levEs w t1 t2 t3 t4) 3))) (hq : (q, methodObj (.ref 244) (.ref self)) ∈ news)
    (h : ∀ r a h' tk', r.length = lcs (like x y) x.length y.length → Fr h₀ L h' m → News h₀ L h' news → Q (.str r a) { s with heap := h', toks := tk' }) :
    wpAny (model PR w) A (call (.ref q) [.str x t, .str y u]) Q E s := by
  refine call_meth N hq ?_
  exact con_dyC (X.keeps F.keep) (T.keeps F.keep) hA hd hx hy I fun r a h' tk' hr k => h r a h' tk' hr (F.keeps k) (N.grown k)

end Mine
end
-- C10
section
open PySem PySem.W PySem.Calls PyProof.Rows
namespace Mine
local macro_rules | `(tactic| walk_at "eval Call Attribute") => `(tactic| (k_here; (with_reducible show wpAny _ _ (eval (Expr.Call (Expr.Attribute _ _ _) [Expr.Starred _ _] [] _) _) _ _ _); refine methodCall_star ?_))
local macro_rules | `(tactic| walk_at "getAttr ref") => `(tactic| (k_here; k_dflt (refine' get_sm ?k1 ?k2 ?k4 ?k5 ?k6 ?k7 ?k8 ?k9 ?k10 ?k11 ?k12 ?k13 ?_; (case k4 => k_inst); (case k1 => k_asm); (case k2 => k_asm); (case k5 => k_is); (case k6 => k_is); (case k7 => k_is); (case k8 => k_is); (case k9 => k_is); (case k10 => decide +kernel); (case k11 => k_get); (case k12 => k_is); (case k13 => k_handed); k_whole)))
local macro_rules | `(tactic| k_inst) => `(tactic| (refine' inst_fz ?F ?I; (case F => k_asm); (case I => with_reducible assumption)))
local macro_rules | `(tactic| k_steps) => `(tactic| repeat' ((fail_if_success (with_reducible show wpAny _ _ (pyIter _) _ _ _)); (fail_if_success (with_reducible show LCg.CompSrc _ _ _ _ _ _ _ _ _ _ _ _ _ _)); (fail_if_success (with_reducible show wpAny _ _ (exec (Stmt.While _ _ _ _) _) _ _ _)); first | (k_unfold; (try dsimp only)) | (k_end; wrow_close) | walk1 | (dsimp only; walk1) | (dsimp only; k_unfold; (try dsimp only)) | fail "no step"))
local macro_rules | `(tactic| ktr_room) => `(tactic| (simp only [Around.deeper, Around.in1, Around.mark, recursionLimit] at *; omega))
local macro_rules | `(tactic| ktr_units) => `(tactic| (have hcL9 := cLine_is; simp only [Around.deeper, Around.in1, Around.mark] at *; omega))
local macro_rules | `(tactic| ktr_enter) => `(tactic| ((try refine wpAny_call ?_); first
  | (refine' code_fz ?k3 ?k5 ?k6 ?k7 ?k8 ?k9 ?kB ?_ ?c2 ?c3 ?c4 ?c5; (case k3 => k_asm); (case k5 => k_asm); (case k6 => k_is); (case k7 => k_is); (case k8 => ktr_room); (case k9 => first | exact BindsTo.of_eq rfl | exact binds_K (by k_in) rfl (by k_is) rfl rfl rfl); (case c5 => decide); (case kB => exact locs rfl); (case c2 => exact rfl); (case c3 => exact rfl); (case c4 => exact rfl); k_whole; intro L' h' F' N'; (try dsimp only); (try k_fold))
  | (refine' code_fzR ?k3 ?k5 ?k6 ?k7 ?k8 ?kV ?kP ?kG ?kB ?_ ?c2 ?c3 ?c4 ?c5; (case k3 => k_asm); (case k5 => k_asm); (case k6 => k_is); (case k7 => k_is); (case k8 => ktr_room); (case kV => kl_lit); (case kP => exact rfl); (case kG => exact fun _ => rfl); (case kB => exact fun _ => locs rfl); (case c5 => decide); (case c2 => exact rfl); (case c3 => exact rfl); (case c4 => exact rfl); k_whole; intro D' L' h' tk' F' N'; (try dsimp only); (try k_fold))
  | (refine' code_fzC ?k3 ?k5 ?k6 ?k7 ?k8 ?k9 ?kB ?kD ?_ ?c2 ?c3 ?c4; (case k3 => k_asm); (case k5 => k_asm); (case k6 => k_is); (case k7 => k_is); (case k8 => ktr_room); (case k9 => first | exact BindsTo.of_eq rfl | exact binds_K (by k_in) rfl (by k_is) rfl rfl rfl); (case kB => exact rfl); (case kD => decide +kernel); (case c2 => exact rfl); (case c3 => exact rfl); (case c4 => exact rfl); k_whole; intro L' h' tk' cells' F' N' Y'; k_cells Y'; (try simp only [List.cons_append, List.nil_append] at N'); (try dsimp only); (try k_fold))
  | (refine' code_fzRC ?k3 ?k5 ?k6 ?k7 ?k8 ?kV ?kP ?kG ?kB ?kD ?_ ?c2 ?c3 ?c4; (case k3 => k_asm); (case k5 => k_asm); (case k6 => k_is); (case k7 => k_is); (case k8 => ktr_room); (case kV => kl_lit); (case kP => exact rfl); (case kG => exact fun _ => rfl); (case kB => exact fun _ => rfl); (case kD => decide +kernel); (case c2 => exact rfl); (case c3 => exact rfl); (case c4 => exact rfl); k_whole; intro D' L' h' tk' cells' F' N' Y'; k_cells Y'; (try simp only [List.cons_append, List.nil_append] at N'); (try dsimp only); (try k_fold))))
theorem fill_C10 (w : World) : Mine.hd.heap_39 w.params = Mine.hd.heap_39 w.params ∧ PySem.Challenge.rw_fq5040_01 = PySem.Challenge.rw_fq5040_01 := by
  w_top off
  k_fill
  exact ⟨rfl, rfl⟩
set_option maxRecDepth 100000
set_option maxHeartbeats 4000000
local macro_rules | `(tactic| walk_at "callWith ref") => `(tactic| (k_here; (with_reducible show wpAny _ _ (callWith _ (Value.ref _) _ (backTo _ (starEach [Expr.Starred _ _] _)) []) _ _ _); k_dflt (refine' callWith_SM ?k1 ?k2 ?k3 ?k4 ?_; (case k1 => k_asm); (case k2 => k_asm); (case k3 => k_mem); (case k4 => k_is); k_whole)))
local macro_rules | `(tactic| walk_at "call ref") => `(tactic| (k_here; (refine' meth_gs ?k1 ?k2 ?k3 ?k4 ?k5 ?k6 ?k7 ?k8 ?k9 ?_; (case k1 => k_asm); (case k2 => k_asm); (case k3 => k_asm); (case k4 => k_asm); (case k5 => rfl); (case k6 => ktr_room); (case k9 => k_mem); (case k8 => k_inst); (case k7 => first | exact .inl rfl | exact .inr rfl); intro D' n' h' tk' F' N' l1; (try k_lt l1); (try k_sweep))))
local macro_rules | `(tactic| walk_at "call ref") => `(tactic| (k_here; (refine' meth_dy ?k1 ?k2 ?k3 ?k4 ?k5 ?k6 ?k7 ?k8 ?k9 ?k10 ?_; (case k1 => k_asm); (case k2 => k_asm); (case k3 => k_asm); (case k4 => k_asm); (case k5 => rfl); (case k6 => ktr_room); (case k7 => omega); (case k8 => omega); (case k10 => k_mem); (case k9 => k_inst); intro r' a' h' tk' hr' F' N'; (try k_sweep))))
theorem con_lc {w : World} {A : Around} {s : Shared} {p : Program} {loose : List Str} {mean : ExcName → Option Value} {mg mb : Str → Option Value} {Q E : Value → Shared → Prop} {self dx : Addr} {t1 t2 t3 t4 : Tok} {x y : Str} {t u : Tok}
    (X : (Mine.hd.heap_39 w.params).In s.heap) (T : Top p loose mean mg mb s.heap) (hA : A.handled = none) (hd : A.depth + 5 < recursionLimit)
    (hx : x.length ≤ 100) (hy : y.length ≤ 100)
    (I : InstAt s.heap self (instObj 266 dx) 266 (some (dictOf (levEs w t1 t2 t3 t4) 3)))
    (hret : ∀ r a h' tk', r.length = lcs (like x y) x.length y.length → Keep s.heap h' → Q (.str r a) { s with heap := h', toks := tk' }) :
    codeAny (model PR w) A (.call (.ref 256) ⟨[.ref self, .str x t, .str y u], []⟩) (fun r s' => match r with | .ok (.ret v) => Q v s' | .ok _ => False | .error e => E e s') s := by
  obtain ⟨hh, dp, fr, gd, un⟩ := A
  subst hA
  ktr_enter
  k_steps
  rename Fr _ _ _ _ => F9
  exact hret _ _ _ _ (by assumption) F9.keep
theorem use_lc {w : World} {A : Around} {s : Shared} {p : Program} {loose : List Str} {mean : ExcName → Option Value} {mg mb : Str → Option Value} {Q E : Value → Shared → Prop} {x y : Str} {t u : Tok} {h₀ : Heap} {L : Addr} {m : Str → Option Value} {news : List (Addr × Obj)} {self dx : Addr} {t1 t2 t3 t4 : Tok}
    (F : Fr h₀ L s.heap m) (N : News h₀ L s.heap news) (X : (Mine.hd.heap_39 w.params).In h₀) (T : Top p loose mean mg mb h₀) (hA : A.handled = none) (hd : A.depth + 5 < recursionLimit)
    (hx : x.length ≤ 100) (hy : y.length ≤ 100)
    (I : InstAt s.heap self (instObj 266 dx) 266 (some (dictOf (levEs w t1 t2 t3 t4) 3)))
    (h : ∀ r a h' tk', r.length = lcs (like x y) x.length y.length → Fr h₀ L h' m → News h₀ L h' news → Q (.str r a) { s with heap := h', toks := tk' }) :
    wpAny (model PR w) A (call (.ref self) [.str x t, .str y u]) Q E s := by
  refine wpAny_call (kco_code (f := 256) (X.keeps F.keep) I rfl (by k_is) (by k_is) (by k_is) ?_)
  exact con_lc (X.keeps F.keep) (T.keeps F.keep) hA hd hx hy I fun r a h' tk' hr k => h r a h' tk' hr (F.keeps k) (N.grown k)
local macro_rules | `(tactic| walk_at "callWith ref") => `(tactic| (k_here; (with_reducible show wpAny _ _ (callWith _ (Value.ref _) _ (backTo _ (starEach [Expr.Starred _ _] _)) []) _ _ _); k_dflt (refine' callWith_SI ?k1 ?k2 ?k3 ?k4 ?_; (case k1 => k_in); (case k2 => k_inst); (case k3 => rfl); (case k4 => k_is); k_whole)))
local macro_rules | `(tactic| walk_at "call ref") => `(tactic| (k_here; (refine' use_lc ?k1 ?k2 ?k3 ?k4 ?k5 ?k6 ?k7 ?k8 ?k9 ?_; (case k9 => k_inst); (case k1 => k_asm); (case k2 => k_asm); (case k3 => k_asm); (case k4 => k_asm); (case k5 => rfl); (case k6 => ktr_room); (case k7 => omega); (case k8 => omega); intro r' a' h' tk' hr' F' N'; (try k_sweep))))
theorem con_si {w : World} {A : Around} {s : Shared} {p : Program} {loose : List Str} {mean : ExcName → Option Value} {mg mb : Str → Option Value} {Q E : Value → Shared → Prop} {self dx : Addr} {t1 t2 t3 t4 : Tok} {x y : Str} {t u : Tok}
    (X : (Mine.hd.heap_39 w.params).In s.heap) (T : Top p loose mean mg mb s.heap) (hA : A.handled = none) (hd : A.depth + 6 < recursionLimit)
    (hx : x.length ≤ 100) (hy : y.length ≤ 100)
    (I : InstAt s.heap self (instObj 266 dx) 266 (some (dictOf (levEs w t1 t2 t3 t4) 3)))
    (hret : ∀ a h' tk', Keep s.heap h' → Q (.int (lcs (like x y) x.length y.length) a) { s with heap := h', toks := tk' }) :
    wpAny (model PR w) A (call (.ref 263) [.ref self, .str x t, .str y u]) Q E s := by
  obtain ⟨hh, dp, fr, gd, un⟩ := A
  subst hA
  obtain ⟨hb1, hb2⟩ := lcs_le (like x y) _ x.length y.length (Nat.le_refl _)
  ktr_enter
  k_steps
  rename Fr _ _ _ _ => F9
  rename _ = lcs _ _ _ => hr
  rw [hr]
  exact hret _ _ _ F9.keep
theorem use_si {w : World} {A : Around} {s : Shared} {p : Program} {loose : List Str} {mean : ExcName → Option Value} {mg mb : Str → Option Value} {Q E : Value → Shared → Prop} {x y : Str} {t u : Tok} {h₀ : Heap} {L : Addr} {m : Str → Option Value} {news : List (Addr × Obj)} {self dx : Addr} {t1 t2 t3 t4 : Tok}
    (F : Fr h₀ L s.heap m) (N : News h₀ L s.heap news) (X : (Mine.hd.heap_39 w.params).In h₀) (T : Top p loose mean mg mb h₀) (hA : A.handled = none) (hd : A.depth + 6 < recursionLimit)
    (hx : x.length ≤ 100) (hy : y.length ≤ 100)
    (I : InstAt s.heap self (instObj 266 dx) 266 (some (dictOf (levEs w t1 t2 t3 t4) 3)))
    (h : ∀ a h' tk', Fr h₀ L h' m → News h₀ L h' news → Q (.int (lcs (like x y) x.length y.length) a) { s with heap := h', toks := tk' }) :
    wpAny (model PR w) A (call (.ref 263) [.ref self, .str x t, .str y u]) Q E s :=
  con_si (X.keeps F.keep) (T.keeps F.keep) hA hd hx hy I fun v h' tk' k => h v h' tk' (F.keeps k) (N.grown k)

end Mine
end
-- C11
section
open PySem PySem.W PySem.Calls PyProof.Rows
namespace Mine
local macro_rules | `(tactic| walk_at "eval Call Attribute") => `(tactic| (k_here; (with_reducible show wpAny _ _ (eval (Expr.Call (Expr.Attribute _ _ _) [Expr.Starred _ _] [] _) _) _ _ _); refine methodCall_star ?_))
local macro_rules | `(tactic| walk_at "getAttr ref") => `(tactic| (k_here; k_dflt (refine' get_sm ?k1 ?k2 ?k4 ?k5 ?k6 ?k7 ?k8 ?k9 ?k10 ?k11 ?k12 ?k13 ?_; (case k4 => k_inst); (case k1 => k_asm); (case k2 => k_asm); (case k5 => k_is); (case k6 => k_is); (case k7 => k_is); (case k8 => k_is); (case k9 => k_is); (case k10 => decide +kernel); (case k11 => k_get); (case k12 => k_is); (case k13 => k_handed); k_whole)))
local macro_rules | `(tactic| k_inst) => `(tactic| (refine' inst_fz ?F ?I; (case F => k_asm); (case I => with_reducible assumption)))
local macro_rules | `(tactic| k_steps) => `(tactic| repeat' ((fail_if_success (with_reducible show wpAny _ _ (pyIter _) _ _ _)); (fail_if_success (with_reducible show LCg.CompSrc _ _ _ _ _ _ _ _ _ _ _ _ _ _)); (fail_if_success (with_reducible show wpAny _ _ (exec (Stmt.While _ _ _ _) _) _ _ _)); first | (k_unfold; (try dsimp only)) | (k_end; wrow_close) | walk1 | (dsimp only; walk1) | (dsimp only; k_unfold; (try dsimp only)) | fail "no step"))
local macro_rules | `(tactic| ktr_room) => `(tactic| (simp only [Around.deeper, Around.in1, Around.mark, recursionLimit] at *; omega))
local macro_rules | `(tactic| ktr_units) => `(tactic| (have hcL9 := cLine_is; simp only [Around.deeper, Around.in1, Around.mark] at *; omega))
local macro_rules | `(tactic| ktr_enter) => `(tactic| ((try refine wpAny_call ?_); first
  | (refine' code_fz ?k3 ?k5 ?k6 ?k7 ?k8 ?k9 ?kB ?_ ?c2 ?c3 ?c4 ?c5; (case k3 => k_asm); (case k5 => k_asm); (case k6 => k_is); (case k7 => k_is); (case k8 => ktr_room); (case k9 => first | exact BindsTo.of_eq rfl | exact binds_K (by k_in) rfl (by k_is) rfl rfl rfl); (case c5 => decide); (case kB => exact locs rfl); (case c2 => exact rfl); (case c3 => exact rfl); (case c4 => exact rfl); k_whole; intro L' h' F' N'; (try dsimp only); (try k_fold))
  | (refine' code_fzR ?k3 ?k5 ?k6 ?k7 ?k8 ?kV ?kP ?kG ?kB ?_ ?c2 ?c3 ?c4 ?c5; (case k3 => k_asm); (case k5 => k_asm); (case k6 => k_is); (case k7 => k_is); (case k8 => ktr_room); (case kV => kl_lit); (case kP => exact rfl); (case kG => exact fun _ => rfl); (case kB => exact fun _ => locs rfl); (case c5 => decide); (case c2 => exact rfl); (case c3 => exact rfl); (case c4 => exact rfl); k_whole; intro D' L' h' tk' F' N'; (try dsimp only); (try k_fold))
  | (refine' code_fzC ?k3 ?k5 ?k6 ?k7 ?k8 ?k9 ?kB ?kD ?_ ?c2 ?c3 ?c4; (case k3 => k_asm); (case k5 => k_asm); (case k6 => k_is); (case k7 => k_is); (case k8 => ktr_room); (case k9 => first | exact BindsTo.of_eq rfl | exact binds_K (by k_in) rfl (by k_is) rfl rfl rfl); (case kB => exact rfl); (case kD => decide +kernel); (case c2 => exact rfl); (case c3 => exact rfl); (case c4 => exact rfl); k_whole; intro L' h' tk' cells' F' N' Y'; k_cells Y'; (try simp only [List.cons_append, List.nil_append] at N'); (try dsimp only); (try k_fold))
  | (refine' code_fzRC ?k3 ?k5 ?k6 ?k7 ?k8 ?kV ?kP ?kG ?kB ?kD ?_ ?c2 ?c3 ?c4; (case k3 => k_asm); (case k5 => k_asm); (case k6 => k_is); (case k7 => k_is); (case k8 => ktr_room); (case kV => kl_lit); (case kP => exact rfl); (case kG => exact fun _ => rfl); (case kB => exact fun _ => rfl); (case kD => decide +kernel); (case c2 => exact rfl); (case c3 => exact rfl); (case c4 => exact rfl); k_whole; intro D' L' h' tk' cells' F' N' Y'; k_cells Y'; (try simp only [List.cons_append, List.nil_append] at N'); (try dsimp only); (try k_fold))))
theorem fill_C11 (w : World) : Mine.hd.heap_39 w.params = Mine.hd.heap_39 w.params ∧ PySem.Challenge.rw_fq5040_01 = PySem.Challenge.rw_fq5040_01 := by
  w_top off
  k_fill
  exact ⟨rfl, rfl⟩
set_option maxRecDepth 100000
set_option maxHeartbeats 4000000
local macro_rules | `(tactic| walk_at "call builtin:list.append") => `(tactic| (k_here; (with_reducible show wpAny _ _ (call (Value.builtin _) [Value.ref _, Value.ref _]) _ _ _); (refine' append_K ?k1 ?k2 ?k3 ?_ ?z; (case k1 => k_asm); (case k2 => k_asm); (case k3 => exact Upd.head (by with_reducible assumption)); (case z => with_reducible assumption)); intro h' F' N'; (try k_sweep)))
local macro_rules | `(tactic| walk_at "getMethod ref") => `(tactic| (k_here; (with_reducible show wpAny _ _ (getMethod (Value.ref _) (Str.ofString "get") _) _ _ _); (refine' kdg_method (knd := PySem.intKind _ _) ?k1 ?k2 ?k3 ?_; (case k1 => k_asm); (case k2 => k_mem); (case k3 => with_reducible assumption))))
local macro_rules | `(tactic| walk_at "call builtin:dict.get") => `(tactic| (k_here; (refine' get_look ?k1 ?k2 ?k3 ?k4 ?k5 ?_; (case k1 => k_asm); (case k2 => k_mem); (case k3 => with_reducible assumption); (case k4 => with_reducible assumption); (case k5 => with_reducible assumption)); refine ⟨fun i' u' hv' => ?_, fun hv' => ?_⟩))
local macro_rules | `(tactic| walk_at "setItem ref int") => `(tactic| (k_here; (refine' put_new ?k1 ?k2 ?k3 ?k4 ?k5 ?k6 ?_; (case k1 => k_asm); (case k2 => k_asm); (case k3 => with_reducible assumption); (case k4 => with_reducible assumption); (case k5 => with_reducible assumption); (case k6 => with_reducible assumption)); intro h' o' F' N' hd'))
local macro_rules | `(tactic| walk_at "compareOp NotEq ref ref") => `(tactic| (k_here; (refine' ne_empty ?k1 ?k2 ?k3 ?k4 ?k5 ?_; (case k1 => k_asm); (case k2 => k_mem); (case k3 => k_mem); (case k4 => with_reducible assumption); (case k5 => (simp only [Around.deeper, Around.in1, Around.mark]; omega))); refine ⟨fun h0' => ?_, fun h0' => ?_⟩))
local macro_rules | `(tactic| walk_at "call builtin:max") => `(tactic| (k_here; (with_reducible show wpAny _ _ (call (Value.builtin _) [Value.ref _]) _ _ _); (with_unfolding_all refine' max_N ?k1 ?k2 ?k3 ?k4 ?k5 ?k6 ?_; (case k1 => rfl); (case k2 => k_asm); (case k3 => k_asm); (case k4 => k_mem); (case k5 => with_reducible assumption); (case k6 => with_reducible assumption)); intro h' M' t' k' F' N' a' b'; (try k_sweep)))
local macro_rules | `(tactic| walk_at "compareOp In int ref") => `(tactic| (k_here; (refine' in_look ?k1 ?k2 ?k3 ?k4 ?k5 ?_; (case k1 => k_asm); (case k2 => k_mem); (case k3 => with_reducible assumption); (case k4 => with_reducible assumption); (case k5 => with_reducible assumption)); refine ⟨fun i' u' hv' hg' => ?_, fun hv' hg' => ?_⟩))
local macro_rules | `(tactic| walk_at "subscriptTail") => `(tactic| (k_here; (with_reducible show wpAny _ _ (subscriptTail _ _ (Value.ref _) (Value.int _ _)) _ _ _); (refine' item_look ?k1 ?k2 ?k3 ?k4 ?_ ?k6 ?k7; (case k1 => k_asm); (case k2 => k_mem); (case k3 => with_reducible assumption); (case k4 => with_reducible assumption); (case k6 => with_unfolding_all rfl); (case k7 => (intro _; with_unfolding_all rfl)))))
local macro_rules | `(tactic| walk_at "call builtin:min") => `(tactic| (k_here; (with_reducible show wpAny _ _ (call (Value.builtin _) [Value.int _ _, Value.int _ _, Value.int _ _]) _ _ _); (with_unfolding_all refine' min3_N ?k1 ?k2 ?k3 ?_; (case k1 => rfl); (case k2 => k_asm); (case k3 => k_asm)); intro v' h' tk' F' N'; (try k_sweep)))
local macro_rules | `(tactic| k_steps) => `(tactic| repeat' ((fail_if_success (with_reducible show wpAny _ _ (pyIter _) _ _ _)); (fail_if_success (with_reducible show wpAny _ _ (exec (Stmt.While _ _ _ _) _) _ _ _)); (fail_if_success (with_reducible show wpAny _ _ (compareOp CmpOp.NotEq (Value.ref _) (Value.ref _)) _ _ _)); (fail_if_success (with_reducible show wpAny _ _ (execs (Stmt.Assign _ (Expr.IfExp _ _ _ _) _ :: _ :: _ :: _ :: _ :: []) _) _ _ _)); first | (k_unfold; (try dsimp only)) | (k_end; wrow_close) | walk1 | (dsimp only; walk1) | (dsimp only; k_unfold; (try dsimp only)) | fail "no step"))
def RowD (w : World) (c : Bool) (q : Nat → Nat → Bool) (n m k : Nat) (p : Addr × Obj) : Prop := ∃ kvs, p.2.IsDictOf (PySem.intKind PR w) kvs ∧ Front c q n m k (2 * k + 1) kvs ∧ (p.1 == sysModules) = false
theorem rows_snoc {w : World} {c : Bool} {q : Nat → Nat → Bool} {n m e : Nat} {rows : List (Addr × Obj)} {p : Addr × Obj} (h : ∀ k p, rows[k]? = some p → RowD w c q n m k p) (hl : rows.length = e) (hp : RowD w c q n m e p) : ∀ k r, (rows ++ [p])[k]? = some r → RowD w c q n m k r := by
  intro k r hr
  rw [List.getElem?_append] at hr
  by_cases hk : k < rows.length
  · rw [if_pos hk] at hr; exact h k r hr
  · rw [if_neg hk] at hr
    by_cases h0 : k - rows.length = 0
    · rw [h0] at hr
      obtain rfl := Option.some.inj hr
      obtain rfl : k = e := by omega
      exact hp
    · obtain ⟨z, hz⟩ : ∃ z, k - rows.length = z + 1 := ⟨k - rows.length - 1, by omega⟩
      rw [hz] at hr
      cases hr
theorem con_lf {w : World} {A : Around} {s : Shared} {p : Program} {loose : List Str} {mean : ExcName → Option Value} {mg mb : Str → Option Value} {Q E : Value → Shared → Prop} {x y : Str} {t u : Tok} {c : Bool}
    (X : (Mine.hd.heap_39 w.params).In s.heap) (T : Top p loose mean mg mb s.heap) (hA : A.handled = none) (hd : A.depth + 3 < recursionLimit)
    (hx : x.length ≤ 100) (hy : y.length ≤ 100) (hu : A.units + 128 < cLine)
    (hret : ∀ D Fd nF rows a L' h' tk', Keep s.heap h' → News s.heap L' h' ((D, { cls := .type "tuple", data := .seq #[.int (ed c (like x y) x.length y.length : Nat) a, .ref Fd] }) :: (Fd, W.listOf (refsOf rows).toArray nF) :: rows) → rows.length = ed c (like x y) x.length y.length + 1 →
      (∀ k p, rows[k]? = some p → RowD w c (like x y) x.length y.length k p) → Q (.ref D) { s with heap := h', toks := tk' }) :
    wpAny (model PR w) A (call (.ref 275) [.str x t, .str y u, .bool c]) Q E s := by
  obtain ⟨hh, dp, fr, gd, un⟩ := A
  subst hA
  ktr_enter
  rename_i Lc hc Fc Nc
  k_steps
  rename Fr _ _ _ _ => F1
  rename News _ _ _ _ => N1
  rename IsRange _ _ _ _ _ _ _ _ => R1
  obtain ⟨Fd, Lz, oz, M, hi0, lo0, hne, N2, F2, e1, e2, e3, ⟨tn, e4⟩, ⟨tm, e5⟩, e6, e7⟩ : ∃ Fd Lz oz M, Obj.IsDictOf (PySem.intKind PR w) oz [] ∧ (Lz == sysModules) = false ∧ @Ne Nat Lz Fd ∧ News _ _ _ [(Fd, W.listOf (refsOf []).toArray 0), (Lz, oz)] ∧ Fr _ _ _ M ∧
      M "first" = some (.str x t) ∧ M "second" = some (.str y u) ∧ M "changes" = some (.bool c) ∧ (∃ a, M "n" = some (.int x.length a)) ∧ (∃ a, M "m" = some (.int y.length a)) ∧ M "fronts" = some (.ref Fd) ∧ M "last" = some (.ref Lz) :=
    ⟨_, _, _, _, by assumption, by assumption, by omega, news_pick N1 (.tail _ (.tail _ (.head _))) (news_pick N1 (.tail _ (.head _)) News.nil), F1, rfl, rfl, rfl, ⟨_, rfl⟩, ⟨_, rfl⟩, rfl, rfl⟩
  refine iter_range (n := x.length + y.length + 1) (fun e m news => ∃ rows kvsL Lz oz nF, news = (Fd, W.listOf (refsOf rows).toArray nF) :: (Lz, oz) :: rows ∧ rows.length = e ∧ Obj.IsDictOf (PySem.intKind PR w) oz kvsL ∧ (Lz == sysModules) = false ∧ AllInt kvsL ∧ kvsL.length ≤ 1000 ∧ Prev c (like x y) x.length y.length e (gof kvsL) ∧
      (∀ k p, rows[k]? = some p → RowD w c (like x y) x.length y.length k p) ∧ (∀ p ∈ (Lz, oz) :: rows, p.1 ≠ Fd) ∧ e ≤ ed c (like x y) x.length y.length ∧
      m "first" = some (.str x t) ∧ m "second" = some (.str y u) ∧ m "changes" = some (.bool c) ∧ m "n" = some (.int x.length tn) ∧ m "m" = some (.int y.length tm) ∧ m "fronts" = some (.ref Fd) ∧ m "last" = some (.ref Lz)) rfl R1 (by omega) (by omega) (by split <;> omega) F2 N2 ?_ ?_ ?_
  · exact ⟨[], [], Lz, oz, 0, rfl, rfl, hi0, lo0, (fun _ h => nomatch h), Nat.zero_le _, prev_nil _ _ _ _, (fun k p h => by simp at h), (fun p hp => by rw [List.mem_singleton.mp hp]; exact hne), Nat.zero_le _, e1, e2, e3, e4, e5, e6, e7⟩
  · clear F1 N1 R1 F2 N2 e1 e2 e3 e4 e5 e6 e7 hi0 lo0 hne
    rintro e m₁ news₁ h2 tk2 te I2 o2 he ⟨rows, kvsL, Lz, oz, nF, rfl, hlen, hdL, loL, hiL, hszL, hprev, hrows, hapF, heE, e1, e2, e3, e4, e5, e6, e7⟩ hneI F2 N2
    rw [Int.zero_add] at F2
    have F3 := fr_give F2 (x := "first") (v := .str x t) (by exact e1)
    have F4 := fr_give F3 (x := "second") (v := .str y u) (by exact e2)
    have F5 := fr_give F4 (x := "changes") (v := .bool c) (by exact e3)
    have F6 := fr_give F5 (x := "n") (v := .int x.length tn) (by exact e4)
    have F7 := fr_give F6 (x := "m") (v := .int y.length tm) (by exact e5)
    have F8 := fr_give F7 (x := "fronts") (v := .ref Fd) (by exact e6)
    have F9 := fr_give F8 (x := "last") (v := .ref Lz) (by exact e7)
    clear F2 F3 F4 F5 F6 F7 F8
    simp only [List.cons_append] at N2
    obtain ⟨hg1, hg2, hg3⟩ := ed_gap c (like x y) _ x.length y.length (Nat.le_refl _)
    k_steps
    rename Fr _ _ _ _ => F3
    rename News _ _ _ _ => N3
    rename IsRange _ _ _ _ _ _ _ _ => R3
    obtain ⟨ND, oN, M, rest, hND, hrest, hiN, loN, N4, F4, e1, e2, e3, e4, e5, e6, e7, e8, e9⟩ : ∃ ND oN M rest, (@LT.lt Nat _ Fd ND ∧ @LT.lt Nat _ Lz ND ∧ AllLt ND (rows ++ [(I2, o2)])) ∧ rest = (Fd, W.listOf (refsOf rows).toArray nF) :: (rows ++ [(I2, o2)]) ∧ Obj.IsDictOf (PySem.intKind PR w) oN [] ∧ (ND == sysModules) = false ∧ News _ _ _ ((ND, oN) :: (Lz, oz) :: rest) ∧ Fr _ _ _ M ∧
        M "first" = some (.str x t) ∧ M "second" = some (.str y u) ∧ M "changes" = some (.bool c) ∧ M "n" = some (.int x.length tn) ∧ M "m" = some (.int y.length tm) ∧ M "fronts" = some (.ref Fd) ∧ M "last" = some (.ref Lz) ∧ M "e" = some (.int e te) ∧ M "now" = some (.ref ND) :=
      ⟨_, _, _, _, by assumption, rfl, by assumption, by assumption, news_swap N3, F3, rfl, rfl, rfl, rfl, rfl, rfl, rfl, rfl, rfl⟩
    have hND2 : ∀ p ∈ (Lz, oz) :: rest, p.1 ≠ ND := by
      intro p hp
      rw [hrest] at hp
      rcases List.mem_cons.mp hp with rfl | hp
      · exact Nat.ne_of_lt hND.2.1
      rcases List.mem_cons.mp hp with rfl | hp
      · exact Nat.ne_of_lt hND.1
      · exact Nat.ne_of_lt (allLt_mem hND.2.2 p hp)
    refine iter_range (n := 2 * e + 1) (fun k m news => ∃ oN kvs, news = (ND, oN) :: (Lz, oz) :: rest ∧ Obj.IsDictOf (PySem.intKind PR w) oN kvs ∧ Front c (like x y) x.length y.length e k kvs ∧
      m "first" = some (.str x t) ∧ m "second" = some (.str y u) ∧ m "changes" = some (.bool c) ∧ m "n" = some (.int x.length tn) ∧ m "m" = some (.int y.length tm) ∧ m "fronts" = some (.ref Fd) ∧ m "last" = some (.ref Lz) ∧ m "e" = some (.int e te) ∧ m "now" = some (.ref ND)) rfl R3 (by omega) (by omega) (by split <;> omega) F4 N4 ?_ ?_ ?_
    · exact ⟨oN, [], rfl, hiN, Front.nil _ _ _ _ _, e1, e2, e3, e4, e5, e6, e7, e8, e9⟩
    · have hni : ∀ p ∈ rest, p ∈ rest := fun _ h => h
      clear F3 N3 R3 F4 N4 e1 e2 e3 e4 e5 e6 e7 e8 e9 hiN hneI hrows hapF
      try clear N2
      rintro k m₁ news₁ h3 tk3 td I3 o3 hk ⟨oN, kvs, rfl, hdN, hfr, e1, e2, e3, e4, e5, e6, e7, e8, e9⟩ hneI3 F2 N2
      have F3 := fr_give F2 (x := "first") (v := .str x t) (by exact e1)
      have F4 := fr_give F3 (x := "second") (v := .str y u) (by exact e2)
      have F5 := fr_give F4 (x := "changes") (v := .bool c) (by exact e3)
      have F6 := fr_give F5 (x := "n") (v := .int x.length tn) (by exact e4)
      have F7 := fr_give F6 (x := "m") (v := .int y.length tm) (by exact e5)
      have F7a := fr_give F7 (x := "fronts") (v := .ref Fd) (by exact e6)
      have F8 := fr_give F7a (x := "last") (v := .ref Lz) (by exact e7)
      have F9 := fr_give F8 (x := "e") (v := .int e te) (by exact e8)
      have F10 := fr_give F9 (x := "now") (v := .ref ND) (by exact e9)
      clear F2 F3 F4 F5 F6 F7 F7a F8 F9
      simp only [List.cons_append] at N2
      obtain ⟨rest3, hr3⟩ : ∃ r, r = rest ++ [(I3, o3)] := ⟨_, rfl⟩
      rw [← hr3] at N2
      have hND3 : ∀ p ∈ (Lz, oz) :: rest3, p.1 ≠ ND := by
        intro p hp
        rw [hr3] at hp
        rcases List.mem_cons.mp hp with rfl | hp
        · exact hND2 _ (.head _)
        rcases List.mem_append.mp hp with hp | hp
        · exact hND2 p (.tail _ hp)
        · rw [List.mem_singleton.mp hp]
          exact fun e => hneI3 _ (.head _) e.symm
      obtain ⟨d, hd0⟩ : ∃ d : Int, d = -(e : Int) + k := ⟨_, rfl⟩
      rw [← hd0] at F10
      k_steps
      · obtain ⟨m0, hm0, F11⟩ : ∃ m0, m0 = _ ∧ Fr s.heap Lc h3 m0 := ⟨_, rfl, F10⟩
        clear F11
        obtain ⟨R, hR⟩ : ∃ R : List Int → Shared → Prop, R = fun ns s' => ∃ h' tk Wd nW cv, s' = { s with heap := h', toks := tk } ∧ Fr s.heap Lc h' (fun z => if z = "ways" then some (.ref Wd) else m0 z) ∧ News s.heap Lc h' ((Wd, W.listOf (List.toArray cv) nW) :: (ND, oN) :: (Lz, oz) :: rest3) ∧ IntsAre cv ns ∧ (@LT.lt Nat _ ND Wd ∧ @LT.lt Nat _ Lz Wd ∧ AllLt Wd rest3) := ⟨_, rfl⟩
        have lA := wA_len (gof kvsL) d
        have lB := wB_len (gof kvsL) d
        have lC := wC_len c (gof kvsL) d
        refine cut1 (R (wA (gof kvsL) d)) ?_ ?_
        · k_steps
          · rename Fr _ _ _ _ => F5
            rename News _ _ _ _ => N5
            refine ⟨rfl, ?_⟩
            subst hm0
            rw [hR]
            rw [wA_some (by assumption)]
            exact ⟨_, _, _, _, _, rfl, F5, N5, .cons _ _ .nil, by assumption⟩
          · rename Fr _ _ _ _ => F5
            rename News _ _ _ _ => N5
            refine ⟨rfl, ?_⟩
            subst hm0
            rw [hR]
            rw [wA_none (by assumption)]
            exact ⟨_, _, _, _, _, rfl, F5, N5, .nil, by assumption⟩
        · intro s' hs'
          rw [hR] at hs'
          obtain ⟨h4, tk4, Wd, nW, cv, rfl, F4, N4, hcv, l4⟩ := hs'
          simp only [hm0] at F4
          clear F10
          have hcl := hcv.length
          have hsz : cv.toArray.size ≤ sizeLine := by rw [PySem.sizeLine_eq]; simp only [List.size_toArray]; (try simp only [List.length_append] at hcl); omega
          refine cut1 (R (wA (gof kvsL) d ++ wB (gof kvsL) d)) ?_ ?_
          · k_steps
            · rename Fr _ _ _ _ => F5
              rename News _ _ _ _ => N5
              rw [List.push_toArray] at N5
              refine ⟨rfl, ?_⟩
              subst hm0
              rw [hR, wB_some (by assumption)]
              exact ⟨_, _, _, _, _, rfl, F5, N5, ints_snoc hcv, l4⟩
            · refine ⟨rfl, ?_⟩
              subst hm0
              rw [hR, wB_none (by assumption), List.append_nil]
              exact ⟨_, _, _, _, _, rfl, F4, N4, hcv, l4⟩
          · intro s' hs'
            rw [hR] at hs'
            obtain ⟨h4, tk4, Wd, nW, cv, rfl, F4, N4, hcv, l4⟩ := hs'
            simp only [hm0] at F4
            have hcl := hcv.length
            have hsz : cv.toArray.size ≤ sizeLine := by rw [PySem.sizeLine_eq]; simp only [List.size_toArray]; (try simp only [List.length_append] at hcl); omega
            refine cut1 (R (wA (gof kvsL) d ++ wB (gof kvsL) d ++ wC c (gof kvsL) d)) ?_ ?_
            · cases c
              · k_steps
                refine ⟨rfl, ?_⟩
                subst hm0
                rw [hR, wC_false, List.append_nil]
                exact ⟨_, _, _, _, _, rfl, F4, N4, hcv, l4⟩
              · k_steps
                · rename Fr _ _ _ _ => F5
                  rename News _ _ _ _ => N5
                  rw [List.push_toArray] at N5
                  refine ⟨rfl, ?_⟩
                  subst hm0
                  rw [hR, wC_some (by assumption)]
                  exact ⟨_, _, _, _, _, rfl, F5, N5, ints_snoc hcv, l4⟩
                · refine ⟨rfl, ?_⟩
                  subst hm0
                  rw [hR, wC_none (by assumption), List.append_nil]
                  exact ⟨_, _, _, _, _, rfl, F4, N4, hcv, l4⟩
            · intro s' hs'
              rw [hR] at hs'
              obtain ⟨h4, tk4, Wd, nW, cv, rfl, F4, N4, hcv, l4⟩ := hs'
              simp only [hm0] at F4
              have hcl := hcv.length
              have hsz : cv.toArray.size ≤ sizeLine := by rw [PySem.sizeLine_eq]; simp only [List.size_toArray]; (try simp only [List.length_append] at hcl); omega
              refine cut1 (R (wA (gof kvsL) d ++ wB (gof kvsL) d ++ wC c (gof kvsL) d ++ wD e)) ?_ ?_
              · k_steps
                · rename Fr _ _ _ _ => F5
                  rename News _ _ _ _ => N5
                  rw [List.push_toArray] at N5
                  refine ⟨rfl, ?_⟩
                  subst hm0
                  rw [hR, wD_zero (by assumption)]
                  exact ⟨_, _, _, _, _, rfl, F5, N5, ints_snoc hcv, l4⟩
                · refine ⟨rfl, ?_⟩
                  subst hm0
                  rw [hR, wD_more (by assumption), List.append_nil]
                  exact ⟨_, _, _, _, _, rfl, F4, N4, hcv, l4⟩
              · intro s' hs'
                rw [hR] at hs'
                obtain ⟨h4, tk4, Wd, nW, cv, rfl, F4, N4, hcv, l4⟩ := hs'
                simp only [hm0] at F4
                rw [ways_eq] at hcv
                try clear F10
                k_steps
                refine ne_empty (by k_asm) (by k_mem) (by k_mem) hcv ?_ ?_
                · simp only [Around.deeper, Around.in1, Around.mark] at hu ⊢
                  omega
                refine ⟨fun h0 => ?_, fun h0 => ?_⟩
                · k_steps
                  rename Fr _ _ _ _ => F5
                  rename News _ _ _ _ => N5
                  rename _ ∈ ways _ _ _ _ => hM1
                  rename ∀ a, a ∈ ways _ _ _ _ → a ≤ _ => hM2
                  have N6 : News s.heap Lc _ ((ND, oN) :: (Lz, oz) :: rest3) := news_tail N5 (.tail _ (.tail _ .rfl))
                  obtain ⟨a0, b0, ha0, hb0, ha1, hb1, hed0⟩ := ways_sound hprev (by assumption) (by assumption) (by omega) (by omega) hM1
                  have hDom := (ways_dom hprev (by assumption) (by assumption) (by omega) (by omega) (by omega)).mp (List.ne_nil_of_length_pos h0)
                  obtain ⟨R2, hR2⟩ : ∃ R2 : Shared → Prop, R2 = fun s' => ∃ h' tk mm, ∃ (a b : Nat) (ta : Tok), s' = { s with heap := h', toks := tk } ∧ Fr s.heap Lc h' mm ∧ News s.heap Lc h' ((ND, oN) :: (Lz, oz) :: rest3) ∧ a0 ≤ a ∧ (a : Int) + d = b ∧ a ≤ x.length ∧ b ≤ y.length ∧ ed c (like x y) a b ≤ e ∧ (a = x.length ∨ b = y.length ∨ like x y a b = false) ∧
                    mm "i" = some (.int a ta) ∧ mm "d" = some (.int d td) ∧ mm "first" = some (.str x t) ∧ mm "second" = some (.str y u) ∧ mm "changes" = some (.bool c) ∧ mm "n" = some (.int x.length tn) ∧ mm "m" = some (.int y.length tm) ∧ mm "fronts" = some (.ref Fd) ∧ mm "last" = some (.ref Lz) ∧ mm "e" = some (.int e te) ∧ mm "now" = some (.ref ND) := ⟨_, rfl⟩
                  refine wpAny_mono (Q := NextR R2) ?_ ?_ (fun _ _ e => e)
                  · refine While_inv2 (n₀ := x.length - a0) (fun nn mm news => news = (ND, oN) :: (Lz, oz) :: rest3 ∧ ∃ (a b : Nat) (ta : Tok), nn = x.length - a ∧ a0 ≤ a ∧ (a : Int) + d = b ∧ a ≤ x.length ∧ b ≤ y.length ∧ ed c (like x y) a b ≤ e ∧
                      mm "i" = some (.int a ta) ∧ mm "d" = some (.int d td) ∧ mm "first" = some (.str x t) ∧ mm "second" = some (.str y u) ∧ mm "changes" = some (.bool c) ∧ mm "n" = some (.int x.length tn) ∧ mm "m" = some (.int y.length tm) ∧ mm "fronts" = some (.ref Fd) ∧ mm "last" = some (.ref Lz) ∧ mm "e" = some (.int e te) ∧ mm "now" = some (.ref ND)) F5 N6 ?_ ?_
                    · exact ⟨rfl, a0, b0, _, rfl, Nat.le_refl _, hb0, ha1, hb1, hed0, by rw [← ha0]; rfl, rfl, rfl, rfl, rfl, rfl, rfl, rfl, rfl, rfl, rfl⟩
                    · clear F5 N5 N6
                      rintro nn mm news₁ h7 tk7 F2 N2 ⟨rfl, a, b, ta, rfl, haa, hab, ha2, hb2, hed, e1, e2, e3, e4, e5, e6, e7, e8, e9, e10, e11⟩
                      have F3 := fr_give F2 (x := "first") (v := .str x t) (by exact e3)
                      have F4 := fr_give F3 (x := "second") (v := .str y u) (by exact e4)
                      have F5 := fr_give F4 (x := "n") (v := .int x.length tn) (by exact e6)
                      have F6 := fr_give F5 (x := "m") (v := .int y.length tm) (by exact e7)
                      have F7 := fr_give F6 (x := "d") (v := .int d td) (by exact e2)
                      have F8 := fr_give F7 (x := "i") (v := .int a ta) (by exact e1)
                      clear F2 F3 F4 F5 F6 F7
                      k_steps
                      · rename Fr _ _ _ _ => F9
                        rename News _ _ _ _ => N9
                        rename (_ == _) = true => hch
                        have hq : like x y a b = true := by
                          unfold like
                          rw [← hab]
                          simpa using hch
                        have q1 : ((a + 1 : Nat) : Int) = (a : Int) + 1 := by omega
                        exact ⟨_, _, _, _, x.length - (a + 1), rfl, F9, N9, by omega, rfl, a + 1, b + 1, _, rfl, by omega, by omega, by omega, by omega, by rw [ed_same c _ hq]; exact hed, by rw [q1]; rfl, rfl, rfl, rfl, e5, rfl, rfl, e8, e9, e10, e11⟩
                      · rename (_ == _) = false => hch
                        have hq : like x y a b = false := by
                          unfold like
                          rw [← hab]
                          simpa using hch
                        refine ⟨rfl, ?_⟩
                        rw [hR2]
                        exact ⟨_, _, _, a, b, ta, rfl, F8, by assumption, haa, hab, ha2, hb2, hed, .inr (.inr hq), rfl, rfl, rfl, rfl, e5, rfl, rfl, e8, e9, e10, e11⟩
                      · refine ⟨rfl, ?_⟩
                        rw [hR2]
                        exact ⟨_, _, _, a, b, ta, rfl, F8, by assumption, haa, hab, ha2, hb2, hed, .inr (.inl (by omega)), rfl, rfl, rfl, rfl, e5, rfl, rfl, e8, e9, e10, e11⟩
                      · refine ⟨rfl, ?_⟩
                        rw [hR2]
                        exact ⟨_, _, _, a, b, ta, rfl, F8, by assumption, haa, hab, ha2, hb2, hed, .inl (by omega), rfl, rfl, rfl, rfl, e5, rfl, rfl, e8, e9, e10, e11⟩
                  · rintro f s' ⟨rfl, hs'⟩
                    rw [hR2] at hs'
                    clear F5 N5 N6
                    obtain ⟨h7, tk7, mm, a, b, ta, rfl, F2, N2, haa, hab, ha2, hb2, hed, hstop, e1, e2, e3, e4, e5, e6, e7, e8, e9, e10, e11⟩ := hs'
                    have F3 := fr_give F2 (x := "now") (v := .ref ND) (by exact e11)
                    have F4 := fr_give F3 (x := "d") (v := .int d td) (by exact e2)
                    have F5 := fr_give F4 (x := "i") (v := .int a ta) (by exact e1)
                    clear F2 F3 F4
                    have hfl := hfr.length
                    have hsz2 : kvs.length ≤ 1000 := by omega
                    have hnew : valueAt kvs d = none := hfr.2.2.2 d (by omega)
                    have hf : Fur c (like x y) x.length y.length e d a := slide_end hprev hDom hM2 hab ha2 hb2 hed (by omega) hstop
                    k_steps
                    rename Fr _ _ _ _ => F6
                    rename News _ _ _ _ => N6
                    have hfr2 : Front c (like x y) x.length y.length e (k + 1) (kvs ++ [(d, .int a ta)]) := by
                      rw [hd0]
                      exact hfr.put (by rw [← hd0]; exact hDom) (by rw [← hd0]; exact hf)
                    exact ⟨_, _, _, _, rfl, F6, news_sub N6 (turn_in hr3), news_sub N6 (turn_own hr3), turn_off hneI3, ⟨_, _, rfl, by assumption, hfr2, e3, e4, e5, e6, e7, e8, e9, e10, rfl⟩⟩
                · have hnD : ¬ Dom c x.length y.length e d := fun hD => (ways_dom hprev (by assumption) (by assumption) (by omega) (by omega) (by omega)).mpr hD h0
                  k_steps
                  rename Fr _ _ _ _ => F6
                  rename News _ _ _ _ => N6
                  have N7 := news_tail N6 (.tail _ (.tail _ .rfl))
                  exact ⟨_, _, _, _, rfl, F6, news_sub N7 (turn_in hr3), news_sub N7 (turn_own hr3), turn_off hneI3, ⟨_, _, rfl, hdN, hfr.skip (by rw [← hd0]; exact hnD), rfl, rfl, rfl, rfl, rfl, rfl, rfl, rfl, rfl⟩⟩

      · rename Fr _ _ _ _ => F6
        rename News _ _ _ _ => N6
        exact ⟨_, _, _, _, rfl, F6, news_sub N6 (turn_in hr3), news_sub N6 (turn_own hr3), turn_off hneI3, ⟨_, _, rfl, hdN, hfr.skip (by rw [← hd0]; exact fun hD => absurd hD.2.2.2.1 (by omega)), rfl, rfl, rfl, rfl, rfl, rfl, rfl, rfl, rfl⟩⟩
      · rename Fr _ _ _ _ => F6
        rename News _ _ _ _ => N6
        exact ⟨_, _, _, _, rfl, F6, news_sub N6 (turn_in hr3), news_sub N6 (turn_own hr3), turn_off hneI3, ⟨_, _, rfl, hdN, hfr.skip (by rw [← hd0]; exact fun hD => absurd hD.2.2.1 (by omega)), rfl, rfl, rfl, rfl, rfl, rfl, rfl, rfl, rfl⟩⟩
    · clear F3 N3 R3 F4 N4 e1 e2 e3 e4 e5 e6 e7 e8 e9 hiN
      try clear N2
      rintro m₁ news₁ h3 tk3 ⟨oN, kvs, rfl, hdN, hfr, e1, e2, e3, e4, e5, e6, e7, e8, e9⟩ F2 N2
      have F3 := fr_give F2 (x := "first") (v := .str x t) (by exact e1)
      have F4 := fr_give F3 (x := "second") (v := .str y u) (by exact e2)
      have F5 := fr_give F4 (x := "changes") (v := .bool c) (by exact e3)
      have F6 := fr_give F5 (x := "n") (v := .int x.length tn) (by exact e4)
      have F7 := fr_give F6 (x := "m") (v := .int y.length tm) (by exact e5)
      have F8 := fr_give F7 (x := "fronts") (v := .ref Fd) (by exact e6)
      have F9 := fr_give F8 (x := "e") (v := .int e te) (by exact e8)
      have F10 := fr_give F9 (x := "now") (v := .ref ND) (by exact e9)
      clear F2 F3 F4 F5 F6 F7 F8 F9
      have N3 : News s.heap Lc h3 ((Fd, W.listOf (refsOf rows).toArray nF) :: (ND, oN) :: (rows ++ [(I2, o2)])) := by
        rw [hrest] at N2
        exact news_back N2
      have hapF2 : ∀ p ∈ (ND, oN) :: (rows ++ [(I2, o2)]), p.1 ≠ Fd := by
        intro p hp
        rcases List.mem_cons.mp hp with rfl | hp
        · exact Nat.ne_of_gt hND.1
        rcases List.mem_append.mp hp with hp | hp
        · exact hapF p (.tail _ hp)
        · rw [List.mem_singleton.mp hp]
          exact fun e => hneI _ (.head _) e.symm
      have hIrows : ∀ p ∈ rows, p.1 ≠ I2 := fun p hp => hneI p (.tail _ (.tail _ hp))
      have hIND : @Ne Nat ND I2 := Nat.ne_of_gt (allLt_mem hND.2.2 (I2, o2) (List.mem_append_right _ (.head _)))
      have hIFd : @Ne Nat Fd I2 := hneI _ (.head _)
      have hsz2 : (refsOf rows).toArray.size ≤ sizeLine := by
        rw [PySem.sizeLine_eq, List.size_toArray]
        simp only [refsOf, List.length_map, hlen]
        omega
      have hallint := hfr.2.1
      clear N2 hneI
      k_steps
      · rename Fr _ _ _ _ => F8
        rename News _ _ _ _ => N8
        have hee : e = ed c (like x y) x.length y.length := Nat.le_antisymm heE ((hfr.done (by assumption)).mp (by assumption))
        rw [List.push_toArray, refs_snoc (o := oN)] at N8
        have N9 := news_sub N8 (ret_in rows)
        have hrow := rows_snoc (p := (ND, oN)) hrows hlen ⟨kvs, hdN, hfr, loN⟩
        have hl2 : (rows ++ [(ND, oN)]).length = ed c (like x y) x.length y.length + 1 := by rw [List.length_append, hlen, ← hee]; rfl
        rw [hee] at N9
        exact hret _ _ _ _ _ _ _ _ F8.keep N9 hl2 hrow
      · rename Fr _ _ _ _ => F8
        rename News _ _ _ _ => N8
        rename _ ≠ (x.length : Int) => hni
        have hee : e + 1 ≤ ed c (like x y) x.length y.length := by
          apply Classical.byContradiction
          intro hlt
          exact hni ((hfr.done (by assumption)).mpr (by omega))
        rw [List.push_toArray, refs_snoc (o := oN)] at N8
        have hfl := hfr.length
        exact ⟨_, _, _, _, rfl, F8, news_sub N8 (next_in rows), news_sub N8 (next_own rows), next_off hIFd hIND hIrows, ⟨_, kvs, ND, oN, _, rfl, by rw [List.length_append, hlen]; rfl, hdN, loN, hallint, by omega, hfr.prev, rows_snoc hrows hlen ⟨kvs, hdN, hfr, loN⟩, next_apart hapF2, hee, rfl, rfl, rfl, rfl, rfl, rfl, rfl⟩⟩
      · exfalso
        omega
      · rename Fr _ _ _ _ => F8
        rename News _ _ _ _ => N8
        have hee : e + 1 ≤ ed c (like x y) x.length y.length := by
          have := hfr.miss (by assumption)
          omega
        rw [List.push_toArray, refs_snoc (o := oN)] at N8
        have hfl := hfr.length
        exact ⟨_, _, _, _, rfl, F8, news_sub N8 (next_in rows), news_sub N8 (next_own rows), next_off hIFd hIND hIrows, ⟨_, kvs, ND, oN, _, rfl, by rw [List.length_append, hlen]; rfl, hdN, loN, hallint, by omega, hfr.prev, rows_snoc hrows hlen ⟨kvs, hdN, hfr, loN⟩, next_apart hapF2, hee, rfl, rfl, rfl, rfl, rfl, rfl, rfl⟩⟩
  · rintro m₁ news₁ h3 tk3 ⟨rows, kvsL, Lz, oz, nF, rfl, hlen, hdL, loL, hiL, hszL, hprev, hrows, hapF, heE, e1, e2, e3, e4, e5, e6, e7⟩ F2 N2
    obtain ⟨hg1, hg2, hg3⟩ := ed_gap c (like x y) _ x.length y.length (Nat.le_refl _)
    omega
theorem use_lf {w : World} {A : Around} {s : Shared} {p : Program} {loose : List Str} {mean : ExcName → Option Value} {mg mb : Str → Option Value} {Q E : Value → Shared → Prop} {x y : Str} {t u : Tok} {c : Bool} {h₀ : Heap} {L : Addr} {m : Str → Option Value} {news : List (Addr × Obj)}
    (F : Fr h₀ L s.heap m) (N : News h₀ L s.heap news) (X : (Mine.hd.heap_39 w.params).In h₀) (T : Top p loose mean mg mb h₀) (hA : A.handled = none) (hd : A.depth + 3 < recursionLimit)
    (hx : x.length ≤ 100) (hy : y.length ≤ 100) (hu : A.units + 128 < cLine)
    (h : ∀ D Fd nF rows a h' tk', Fr h₀ L h' m → News h₀ L h' ((D, { cls := .type "tuple", data := .seq #[.int (ed c (like x y) x.length y.length : Nat) a, .ref Fd] }) :: (Fd, W.listOf (refsOf rows).toArray nF) :: (news ++ rows)) → rows.length = ed c (like x y) x.length y.length + 1 →
      (∀ k p, rows[k]? = some p → RowD w c (like x y) x.length y.length k p) → Q (.ref D) { s with heap := h', toks := tk' }) :
    wpAny (model PR w) A (call (.ref 275) [.str x t, .str y u, .bool c]) Q E s := by
  refine con_lf (X.keeps F.keep) (T.keeps F.keep) hA hd hx hy hu fun D Fd nF rows a L' h' tk' k N' hl hr => ?_
  refine h D Fd nF rows a h' tk' (F.keeps k) ?_ hl hr
  have up : ∀ q ∈ (D, ({ cls := .type "tuple", data := .seq #[.int (ed c (like x y) x.length y.length : Nat) a, .ref Fd] } : Obj)) :: (Fd, W.listOf (refsOf rows).toArray nF) :: rows, h'.get? q.1 = some q.2 ∧ q.1 ≠ L ∧ h₀.get? q.1 = none := by
    intro q hq
    obtain ⟨h1, _, h3⟩ := N' q hq
    refine ⟨h1, ?_, ?_⟩
    · intro e
      obtain ⟨oL, _, _, hL, _⟩ := F.ns
      rw [e, hL] at h3
      cases h3
    · cases e : h₀.get? q.1 with
      | none => rfl
      | some o => rw [F.keep _ _ e] at h3; cases h3
  intro q hq
  rcases List.mem_cons.mp hq with hq | hq
  · exact up q (hq ▸ .head _)
  rcases List.mem_cons.mp hq with hq | hq
  · exact up q (hq ▸ .tail _ (.head _))
  rcases List.mem_append.mp hq with hq | hq
  · exact N.grown k q hq
  · exact up q (.tail _ (.tail _ hq))

end Mine
end
-- L9
section
open PySem PySem.W PySem.Calls PyProof.Rows
set_option maxRecDepth 100000
namespace Mine
theorem news_add {h₀ h : Heap} {L : Addr} {p : Addr × Obj} {news : List (Addr × Obj)} (N : News h₀ L h news) (hp : p ∈ news) : News h₀ L h (p :: news) := by
  intro q hq
  rcases List.mem_cons.mp hq with rfl | hq
  · exact N _ hp
  · exact N _ hq
theorem fmod_far (z : Int) (n : Nat) : 0 ≤ z.fmod ((n : Int) + 1) ∧ z.fmod ((n : Int) + 1) < (n : Int) + 1 := by
  have h := fmod_in z (n := n + 1) (by omega)
  rw [Int.natCast_add] at h
  exact h
def Place (q : Nat → Nat → Bool) (n m e : Nat) (kvs : List (Int × Value)) (z : Int) : Prop := ∃ i u, valueAt kvs z = some (.int i u) ∧ Fur true q n m e z i
theorem gof_int {kvs : List (Int × Value)} {k i : Int} (h : gof kvs k = some i) : ∃ u, valueAt kvs k = some (.int i u) := by
  unfold gof at h
  split at h
  · rename_i j u e
    obtain rfl := Option.some.inj h
    exact ⟨u, e⟩
  · cases h
theorem Front.place {q : Nat → Nat → Bool} {n m e : Nat} {kvs : List (Int × Value)} {z : Int} (h : Front true q n m e (2 * e + 1) kvs) (hz : z ∈ kvs.map (·.1)) : Place q n m e kvs z := by
  rw [h.1] at hz
  obtain ⟨hD, hlt⟩ := mem_keysT.mp hz
  obtain ⟨i, hi, hf⟩ := h.2.2.1 z hD hlt
  obtain ⟨u, hu⟩ := gof_int hi
  exact ⟨i, u, hu, hf⟩
theorem Front.some {q : Nat → Nat → Bool} {n m e : Nat} {kvs : List (Int × Value)} (h : Front true q n m e (2 * e + 1) kvs) : kvs ≠ [] := by
  rintro rfl
  have hz : (0 : Int) ∈ keysT true n m e (2 * e + 1) := mem_keysT.mpr ⟨⟨by omega, by omega, by omega, by omega, .inl rfl⟩, by omega⟩
  rw [← h.1] at hz
  cases hz
section
variable {prog : Program} {w : World} {A : Around} {E : Value → Shared → Prop} {s : Shared} {h₀ : Heap} {L d D : Addr} {m : Str → Option Value} {news : List (Addr × Obj)} {o : Obj} {kvs : List (Int × Value)} {vs : List Value} {ns : List Int} {u : Tok} {c : Nat}
theorem front_at {value slice : PySem.Expr} {Q : Value → Shared → Prop} {rows : List (Addr × Obj)} {e : Nat} (N : News h₀ L s.heap news) (hm : (D, W.listOf (refsOf rows).toArray c) ∈ news) (hp : rows[e]? = Option.some (d, o)) (he : e ≤ 100) (h : Q (.ref d) s)
    (hs : subscripted slice false (.ref D) (.int (e : Int) u) = operate [.ref D, .int (e : Int) u] (getItem (.ref D) (.int (e : Int) u)) := by with_unfolding_all rfl) :
    wpAny (model prog w) A (subscriptTail value slice (.ref D) (.int (e : Int) u)) Q E s := by
  have hlt : e < rows.length := by
    apply Classical.byContradiction
    intro hn
    rw [List.getElem?_eq_none (by omega)] at hp
    cases hp
  refine front_row N hm (by omega) (by omega) (by omega) (fun p hp2 => ?_) hs
  rw [Int.toNat_natCast, hp] at hp2
  obtain rfl := Option.some.inj hp2
  exact h
theorem front_sorted {q : Nat → Nat → Bool} {n₁ m₁ e : Nat} {Q : Value → Shared → Prop} (hh : A.handled = none) (F : Fr h₀ L s.heap m) (N : News h₀ L s.heap news) (hp : (d, o) ∈ news) (hd : o.IsDictOf (PySem.intKind prog w) kvs) (lo : (d == sysModules) = false) (hfr : Front true q n₁ m₁ e (2 * e + 1) kvs) (he : e ≤ 20)
    (h : ∀ D vs ns c h' tk, Fr h₀ L h' m → News h₀ L h' ((D, W.listOf (List.toArray vs) c) :: news) → IntsAre vs ns → 0 < vs.length → vs.length ≤ 41 → (∀ z ∈ ns, Place q n₁ m₁ e kvs z) → Q (.ref D) { s with heap := h', toks := tk }) :
    wpAny (model prog w) A (call (.builtin "sorted") [.ref d]) Q E s := by
  have hl := hfr.length
  have hpos := hfr.some
  refine dict_sorted hh F N hp hd lo hpos (by omega) fun D vs ns c h' tk F' N' _ hI hP => ?_
  have h1 := hI.length
  have h2 := hP.length_eq
  rw [List.length_map] at h2
  have h3 := List.length_pos_iff.mpr hpos
  exact h D vs ns c h' tk F' N' hI (by omega) (by omega) fun z hz => hfr.place (hP.mem_iff.mp hz)
theorem mem_of_at : ∀ {vs : List Value} {ns : List Int} {i : Nat}, IntsAre vs ns → i < vs.length → ∃ z t, vs[i]? = Option.some (.int z t) ∧ z ∈ ns
  | _, _, _, .nil, h => absurd h (by simp)
  | _, _, 0, .cons z t _, _ => ⟨z, t, rfl, .head _⟩
  | _, _, i + 1, .cons _ _ r, h => by
    obtain ⟨z, t, e, hz⟩ := mem_of_at (i := i) r (by simpa using h)
    exact ⟨z, t, by simpa using e, .tail _ hz⟩
theorem cut_dist {x y : Str} {i j : Nat} {a b : Int} (ha : a = i) (hb : b = j) (hi : i ≤ x.length) (hj : j ≤ y.length) :
    dist (like (Txt.slice x none (Option.some a)) (Txt.slice y none (Option.some b))) (Txt.slice x none (Option.some a)).length (Txt.slice y none (Option.some b)).length = ed true (like x y) i j := by
  subst ha hb
  rw [slice_to hi, slice_to hj, pre_length hi, pre_length hj, dist_pre hi hj, ed_dist (like x y) _ i j (Nat.le_refl _)]
theorem place_at {value slice : PySem.Expr} {x y : Str} {e : Nat} {Q : Value → Shared → Prop} {k : Int} (N : News h₀ L s.heap news) (hm : (D, W.listOf (List.toArray vs) c) ∈ news) (hI : IntsAre vs ns) (hz : ∀ z ∈ ns, Place (like x y) x.length y.length e kvs z) (h0 : 0 ≤ k) (h1 : k < vs.length) (h2 : vs.length ≤ 41)
    (h : ∀ (z : Int) (t : Tok) (i j : Nat) (v : Tok), valueAt kvs z = Option.some (.int (i : Int) v) → (i : Int) + z = j → i ≤ x.length → j ≤ y.length →
      dist (like (Txt.slice x none (Option.some (i : Int))) (Txt.slice y none (Option.some ((i : Int) + z)))) (Txt.slice x none (Option.some (i : Int))).length (Txt.slice y none (Option.some ((i : Int) + z))).length ≤ e →
      (i = x.length ∨ j = y.length ∨ e < dist (like (Txt.slice x none (Option.some ((i : Int) + 1))) (Txt.slice y none (Option.some ((i : Int) + 1 + z)))) (Txt.slice x none (Option.some ((i : Int) + 1))).length (Txt.slice y none (Option.some ((i : Int) + 1 + z))).length) → Q (.int z t) s)
    (hs : subscripted slice false (.ref D) (.int k u) = operate [.ref D, .int k u] (getItem (.ref D) (.int k u)) := by with_unfolding_all rfl) :
    wpAny (model prog w) A (subscriptTail value slice (.ref D) (.int k u)) Q E s := by
  have hl : s.heap.IsList D vs.toArray := PySem.IsL.isList (n := c) (N _ hm).1
  obtain ⟨z, t, eq, hzn⟩ := mem_of_at (i := k.toNat) hI (by omega)
  obtain ⟨i, v, hv, i', j', rfl, hj, h3, h4, h5, h6⟩ := hz z hzn
  refine tail_any hl.typeIs slot_list_getitem.lookup (wpAny_getItem_list (x := .int z t) hl h0 (by omega) (by simpa using eq) (h z t i' j' v hv hj h3 h4 ?_ ?_)) hs
  · rw [cut_dist rfl hj h3 h4]
    exact h5
  · by_cases g1 : i' = x.length
    · exact .inl g1
    by_cases g2 : j' = y.length
    · exact .inr (.inl g2)
    refine .inr (.inr ?_)
    rw [cut_dist (i := i' + 1) (j := j' + 1) (by omega) (by omega) (by omega) (by omega)]
    rcases h6 with g | g | g
    · exact absurd g g1
    · exact absurd g g2
    · exact g
theorem item_place {value slice : PySem.Expr} {Q : Value → Shared → Prop} {k i : Int} {t v : Tok} (N : News h₀ L s.heap news) (hp : (d, o) ∈ news) (hd : o.IsDictOf (PySem.intKind prog w) kvs) (hl : valueAt kvs k = Option.some (.int i v)) (h : Q (.int i v) { s with toks := s.toks + 1 })
    (hs : subscripted slice false (.ref d) (.int k t) = operate [.ref d, .int k t] (getItem (.ref d) (.int k t)) := by with_unfolding_all rfl) :
    wpAny (model prog w) A (subscriptTail value slice (.ref d) (.int k t)) Q E s :=
  kba_turn (value' := PySem.Expr.Name (PySem.Str.ofString "_") ⟨0, 0, 0, 0⟩) (fun _ => rfl) (item_look N hp hd hl h hs (fun _ => rfl))
theorem len_vs {Q : Value → Shared → Prop} (N : News h₀ L s.heap news) (hm : (D, W.listOf (List.toArray vs) c) ∈ news) (h2 : vs.length ≤ 41) (h : Q (.int (vs.length : Nat) (s.toks + 1)) { s with toks := s.toks + 1 + 1 }) :
    wpAny (model prog w) A (call (.builtin "len") [.ref D]) Q E s := by
  have hl : s.heap.IsList D vs.toArray := PySem.IsL.isList (n := c) (N _ hm).1
  refine len_list hl (by rw [List.size_toArray]; omega) ?_
  rw [List.size_toArray]
  exact h
theorem mod_vs {Q : Value → Shared → Prop} {a : Int} {t u : Tok} (h1 : 0 < vs.length) (h : ∀ k : Int, 0 ≤ k → k < vs.length → Q (.int k s.toks) { s with toks := s.toks + 1 }) :
    wpAny (model prog w) A (binaryOp .Mod (.int a t) (.int (vs.length : Nat) u)) Q E s :=
  mod_int' (by omega) (h _ (fmod_in a h1).1 (fmod_in a h1).2)
end
end Mine
namespace Mine
theorem post_true (ws : List Int) : PySem.Challenge.rw_fq5040_01.row.claim.post [ofPy (PyData.list (ws.map PyData.int))] (.bool true) [ofPy (PyData.list (ws.map PyData.int))] = true := by
  with_unfolding_all rfl
theorem none_raised (ws : List Int) : ∀ cls, PySem.Challenge.rw_fq5040_01.row.claim.raises [ofPy (PyData.list (ws.map PyData.int))] cls = false := by
  intro cls
  with_unfolding_all rfl
theorem end_true {cl : Str → Option Addr} {mean : ExcName → Option Value} {ws : List Int} {s₁ s' : Shared} {L : Addr} {m : Str → Option Value} {b : Bool} (F : Fr s₁.heap L s'.heap m) (hg : s'.gens = #[]) (hb : b = true) (hos : s'.os = s₁.os := by rfl) :
    GoodW PySem.Challenge.rw_fq5040_01.row.claim cl mean [ofPy (PyData.list (ws.map PyData.int))] s₁ (.ok (.ret (.bool b))) s' := by
  subst hb
  exact goodW_bool F hg (none_raised ws) (post_true ws) hos
end Mine
end
-- C13
section
open PySem PySem.W PySem.Calls PyProof.Rows
namespace Mine
local macro_rules | `(tactic| walk_at "eval Call Attribute") => `(tactic| (k_here; (with_reducible show wpAny _ _ (eval (Expr.Call (Expr.Attribute _ _ _) [Expr.Starred _ _] [] _) _) _ _ _); refine methodCall_star ?_))
local macro_rules | `(tactic| walk_at "getAttr ref") => `(tactic| (k_here; k_dflt (refine' get_sm ?k1 ?k2 ?k4 ?k5 ?k6 ?k7 ?k8 ?k9 ?k10 ?k11 ?k12 ?k13 ?_; (case k4 => k_inst); (case k1 => k_asm); (case k2 => k_asm); (case k5 => k_is); (case k6 => k_is); (case k7 => k_is); (case k8 => k_is); (case k9 => k_is); (case k10 => decide +kernel); (case k11 => k_get); (case k12 => k_is); (case k13 => k_handed); k_whole)))
local macro_rules | `(tactic| k_inst) => `(tactic| (refine' inst_fz ?F ?I; (case F => k_asm); (case I => with_reducible assumption)))
local macro_rules | `(tactic| k_steps) => `(tactic| repeat' ((fail_if_success (with_reducible show wpAny _ _ (pyIter _) _ _ _)); (fail_if_success (with_reducible show LCg.CompSrc _ _ _ _ _ _ _ _ _ _ _ _ _ _)); (fail_if_success (with_reducible show wpAny _ _ (exec (Stmt.While _ _ _ _) _) _ _ _)); first | (k_unfold; (try dsimp only)) | (k_end; wrow_close) | walk1 | (dsimp only; walk1) | (dsimp only; k_unfold; (try dsimp only)) | fail "no step"))
local macro_rules | `(tactic| ktr_room) => `(tactic| (simp only [Around.deeper, Around.in1, Around.mark, recursionLimit] at *; omega))
local macro_rules | `(tactic| ktr_units) => `(tactic| (have hcL9 := cLine_is; simp only [Around.deeper, Around.in1, Around.mark] at *; omega))
local macro_rules | `(tactic| ktr_enter) => `(tactic| ((try refine wpAny_call ?_); first
  | (refine' code_fz ?k3 ?k5 ?k6 ?k7 ?k8 ?k9 ?kB ?_ ?c2 ?c3 ?c4 ?c5; (case k3 => k_asm); (case k5 => k_asm); (case k6 => k_is); (case k7 => k_is); (case k8 => ktr_room); (case k9 => first | exact BindsTo.of_eq rfl | exact binds_K (by k_in) rfl (by k_is) rfl rfl rfl); (case c5 => decide); (case kB => exact locs rfl); (case c2 => exact rfl); (case c3 => exact rfl); (case c4 => exact rfl); k_whole; intro L' h' F' N'; (try dsimp only); (try k_fold))
  | (refine' code_fzR ?k3 ?k5 ?k6 ?k7 ?k8 ?kV ?kP ?kG ?kB ?_ ?c2 ?c3 ?c4 ?c5; (case k3 => k_asm); (case k5 => k_asm); (case k6 => k_is); (case k7 => k_is); (case k8 => ktr_room); (case kV => kl_lit); (case kP => exact rfl); (case kG => exact fun _ => rfl); (case kB => exact fun _ => locs rfl); (case c5 => decide); (case c2 => exact rfl); (case c3 => exact rfl); (case c4 => exact rfl); k_whole; intro D' L' h' tk' F' N'; (try dsimp only); (try k_fold))
  | (refine' code_fzC ?k3 ?k5 ?k6 ?k7 ?k8 ?k9 ?kB ?kD ?_ ?c2 ?c3 ?c4; (case k3 => k_asm); (case k5 => k_asm); (case k6 => k_is); (case k7 => k_is); (case k8 => ktr_room); (case k9 => first | exact BindsTo.of_eq rfl | exact binds_K (by k_in) rfl (by k_is) rfl rfl rfl); (case kB => exact rfl); (case kD => decide +kernel); (case c2 => exact rfl); (case c3 => exact rfl); (case c4 => exact rfl); k_whole; intro L' h' tk' cells' F' N' Y'; k_cells Y'; (try simp only [List.cons_append, List.nil_append] at N'); (try dsimp only); (try k_fold))
  | (refine' code_fzRC ?k3 ?k5 ?k6 ?k7 ?k8 ?kV ?kP ?kG ?kB ?kD ?_ ?c2 ?c3 ?c4; (case k3 => k_asm); (case k5 => k_asm); (case k6 => k_is); (case k7 => k_is); (case k8 => ktr_room); (case kV => kl_lit); (case kP => exact rfl); (case kG => exact fun _ => rfl); (case kB => exact fun _ => rfl); (case kD => decide +kernel); (case c2 => exact rfl); (case c3 => exact rfl); (case c4 => exact rfl); k_whole; intro D' L' h' tk' cells' F' N' Y'; k_cells Y'; (try simp only [List.cons_append, List.nil_append] at N'); (try dsimp only); (try k_fold))))
theorem fill_C13 (w : World) : Mine.hd.heap_39 w.params = Mine.hd.heap_39 w.params ∧ PySem.Challenge.rw_fq5040_01 = PySem.Challenge.rw_fq5040_01 := by
  w_top off
  k_fill
  exact ⟨rfl, rfl⟩
set_option maxRecDepth 100000
set_option maxHeartbeats 4000000
local macro_rules | `(tactic| k_inst) => `(tactic| (k_dflt (refine' inst_led ?j1 ?j2 ?j3; (case j1 => k_asm); (case j2 => k_mem); (case j3 => k_mem))))
local macro_rules | `(tactic| walk_at "subscriptTail") => `(tactic| (k_here; (with_reducible show wpAny _ _ (subscriptTail _ _ (Value.ref _) (Value.int _ _)) _ _ _); (refine' front_at ?k1 ?k2 ?k3 ?k4 ?_ ?k6; (case k1 => k_asm); (case k2 => k_dflt k_mem); (case k3 => with_reducible assumption); (case k4 => omega); (case k6 => with_unfolding_all rfl))))
local macro_rules | `(tactic| walk_at "subscriptTail Name BinOp ref int") => `(tactic| (k_here; (with_reducible show wpAny _ _ (subscriptTail _ _ (Value.ref _) (Value.int _ _)) _ _ _); (refine' place_at ?k1 ?k2 ?k3 ?k4 ?k5 ?k6 ?k7 ?_ ?k8; (case k1 => k_asm); (case k2 => k_dflt k_mem); (case k3 => with_reducible assumption); (case k4 => with_reducible assumption); (case k5 => with_reducible assumption); (case k6 => with_reducible assumption); (case k7 => with_reducible assumption); (case k8 => with_unfolding_all rfl)); intro z' t' i' j' v' hv' hj' hi' hm' he' hq'))
local macro_rules | `(tactic| walk_at "subscriptTail Subscript Name Name Name ref int") => `(tactic| (k_here; (with_reducible show wpAny _ _ (subscriptTail _ _ (Value.ref _) (Value.int _ _)) _ _ _); (refine' item_place ?k1 ?k2 ?k3 ?k4 ?_ ?k6; (case k1 => k_asm); (case k2 => k_dflt k_mem); (case k3 => with_reducible assumption); (case k4 => with_reducible assumption); (case k6 => with_unfolding_all rfl))))
local macro_rules | `(tactic| walk_at "call builtin:sorted") => `(tactic| (k_here; (refine' front_sorted ?k1 ?k2 ?k3 ?k4 ?k5 ?k6 ?k7 ?k8 ?_; (case k1 => k_dflt rfl); (case k2 => k_asm); (case k3 => k_asm); (case k4 => k_dflt k_mem); (case k5 => with_reducible assumption); (case k6 => with_reducible assumption); (case k7 => with_reducible assumption); (case k8 => omega); intro D' vs' ns' c' h' tk' F' N' hI' h1' h2' hz'; (try k_sweep))))
local macro_rules | `(tactic| walk_at "call builtin:len") => `(tactic| (k_here; (with_reducible show wpAny _ _ (call (Value.builtin "len") [Value.ref _]) _ _ _); (refine' len_vs ?k1 ?k2 ?k3 ?_; (case k1 => k_asm); (case k2 => k_dflt k_mem); (case k3 => with_reducible assumption))))
local macro_rules | `(tactic| walk_at "binaryOp Mod int int") => `(tactic| (k_here; (refine' mod_vs ?k1 ?_; (case k1 => with_reducible assumption)); intro k' hk0' hk1'))
local macro_rules | `(tactic| walk_at "call ref") => `(tactic| (k_here; (refine' use_re ?k1 ?k2 ?k3 ?k4 ?k5 ?k6 ?k7 ?k8 ?k9 ?_; (case k9 => k_dflt (refine' inst_led ?j1 ?j2 ?j3; (case j1 => k_asm); (case j2 => k_mem); (case j3 => k_mem))); (case k1 => k_asm); (case k2 => k_asm); (case k3 => k_asm); (case k4 => k_asm); (case k5 => k_dflt rfl); (case k6 => k_dflt (first | (simp only [Around.deeper, callerA]; decide) | (simp only [Around.deeper, callerA, recursionLimit, cLine]; omega) | exact Nat.lt_of_succ_le (Nat.le_of_ble_eq_true rfl))); (case k7 => omega); (case k8 => omega); intro v' h' tk' F' N'; (try k_sweep))))
local macro_rules | `(tactic| walk_at "call ref") => `(tactic| (k_here; (refine' use_si ?k1 ?k2 ?k3 ?k4 ?k5 ?k6 ?k7 ?k8 ?k9 ?_; (case k9 => k_dflt (refine' inst_led ?j1 ?j2 ?j3; (case j1 => k_asm); (case j2 => k_mem); (case j3 => k_mem))); (case k1 => k_asm); (case k2 => k_asm); (case k3 => k_asm); (case k4 => k_asm); (case k5 => k_dflt rfl); (case k6 => k_dflt (first | (simp only [Around.deeper, callerA]; decide) | (simp only [Around.deeper, callerA, recursionLimit, cLine]; omega) | exact Nat.lt_of_succ_le (Nat.le_of_ble_eq_true rfl))); (case k7 => omega); (case k8 => omega); intro v' h' tk' F' N'; (try k_sweep))))
local macro_rules | `(tactic| walk_at "call ref") => `(tactic| (k_here; (refine' use_ca ?k1 ?k2 ?k3 ?k4 ?k5 ?k6 ?k7 ?k8 ?k9 ?_; (case k9 => k_dflt (refine' inst_led ?j1 ?j2 ?j3; (case j1 => k_asm); (case j2 => k_mem); (case j3 => k_mem))); (case k1 => k_asm); (case k2 => k_asm); (case k3 => k_asm); (case k4 => k_asm); (case k5 => k_dflt rfl); (case k6 => k_dflt (first | (simp only [Around.deeper, callerA]; decide) | (simp only [Around.deeper, callerA, recursionLimit, cLine]; omega) | exact Nat.lt_of_succ_le (Nat.le_of_ble_eq_true rfl))); (case k7 => omega); (case k8 => omega); intro v' h' tk' F' N'; (try k_sweep))))
local macro_rules | `(tactic| walk_at "call ref") => `(tactic| (k_here; (refine' use_lf ?k1 ?k2 ?k3 ?k4 ?k5 ?k6 ?k7 ?k8 ?k9 ?_; (case k1 => k_asm); (case k2 => k_asm); (case k3 => k_asm); (case k4 => k_asm); (case k5 => k_dflt rfl); (case k6 => k_dflt (first | (simp only [Around.deeper, callerA]; decide) | (simp only [Around.deeper, callerA, recursionLimit, cLine]; omega) | exact Nat.lt_of_succ_le (Nat.le_of_ble_eq_true rfl))); (case k7 => omega); (case k8 => omega); (case k9 => k_dflt (first | (simp only [Around.deeper, callerA]; decide) | (simp only [Around.deeper, callerA, recursionLimit, cLine]; omega) | exact Nat.lt_of_succ_le (Nat.le_of_ble_eq_true rfl))); intro D' Fd' nF' rows' a' h' tk' F' N' hl' hr'; (try simp only [List.cons_append, List.nil_append] at N'); (try k_sweep))))
local macro_rules | `(tactic| walk_at "subscriptTail") => `(tactic| (k_here; (with_reducible show wpAny _ _ (subscriptTail _ _ (Value.ref _) (Value.int _ _)) _ _ _); (refine' two_sub ?k1 ?k2 ?k3 ?k4 ?_ ?k6; (case k1 => k_asm); (case k2 => k_mem); (case k3 => omega); (case k4 => omega); (case k6 => with_unfolding_all rfl)); refine ⟨fun hk' => ?_, fun hk' => ?_⟩; (all_goals (try (exfalso; omega)))))
local macro_rules | `(tactic| walk_at "getItem ref int") => `(tactic| (k_here; (refine' two_get ?k1 ?k2 ?k3 ?k4 ?_; (case k1 => k_asm); (case k2 => k_mem); (case k3 => omega); (case k4 => omega)); refine ⟨fun hk' => ?_, fun hk' => ?_⟩; (all_goals (try (exfalso; omega)))))
local macro_rules | `(tactic| walk_at "setItem ref int") => `(tactic| (k_here; first
  | (refine' two_setA ?k1 ?k2 ?k3 ?k4 ?_; (case k1 => k_asm); (case k2 => k_asm); (case k3 => with_reducible assumption); (case k4 => with_reducible assumption); intro h' n' F' N'; (try k_sweep))
  | (refine' two_setB ?k1 ?k2 ?k3 ?k4 ?_; (case k1 => k_asm); (case k2 => k_asm); (case k3 => with_reducible assumption); (case k4 => with_reducible assumption); intro h' n' F' N'; (try k_sweep))))
theorem law_t : PySem.Challenge.rw_fq5040_01.Holds := by
  refine Mine.hd ?_
  k_go0
  all_goals try k_fold
  rename Shared => s1
  rename World => w
  rename Frag.In _ _ => KX
  rename Top _ _ _ _ _ _ => T
  rename IntsAre _ _ => hI
  rename Heap.IsList _ _ _ => hL
  rename Fr _ _ _ _ => F0
  rename News _ _ _ _ => N0
  obtain ⟨m0, hm0, F1⟩ : ∃ m0, m0 = _ ∧ Fr s1.heap s1.heap.objs.size _ m0 := ⟨_, rfl, F0⟩
  clear F1
  refine cut1 (fun s' => ∃ h' tk, ∃ (hv : Int) (th : Tok), s' = { s1 with heap := h', toks := tk } ∧ Fr s1.heap s1.heap.objs.size h' (fun z => if z = "head" then some (.int hv th) else m0 z) ∧ News s1.heap s1.heap.objs.size h' []) ?_ ?_
  · k_steps
    all_goals (
      subst hm0
      rename Fr _ _ _ _ => F3
      rename News _ _ _ _ => N3
      exact ⟨rfl, _, _, _, _, rfl, F3, N3⟩)
  · rintro s' ⟨h2, tk2, hv, th, rfl, F2, N2⟩
    simp only [hm0] at F2
    clear F0 N0
    obtain ⟨m1, hm1, F1⟩ : ∃ m1, m1 = _ ∧ Fr s1.heap s1.heap.objs.size _ m1 := ⟨_, rfl, F2⟩
    clear F1
    refine cut1 (fun s' => ∃ h' tk, ∃ (ls : Str) (tl : Tok), (ls = "ab" ∨ ls = "abc") ∧ s' = { s1 with heap := h', toks := tk } ∧ Fr s1.heap s1.heap.objs.size h' (fun z => if z = "letters" then some (.str ls tl) else m1 z) ∧ News s1.heap s1.heap.objs.size h' []) ?_ ?_
    · k_steps
      all_goals (
        subst hm1
        rename Fr _ _ _ _ => F3
        rename News _ _ _ _ => N3
        exact ⟨rfl, _, _, _, _, by first | exact .inl rfl | exact .inr rfl, rfl, F3, N3⟩)
    · rintro s' ⟨h3, tk3, ls, tl, hls, rfl, F3, N3⟩
      simp only [hm1] at F3
      clear F2 N2
      k_steps
      rename Fr _ _ _ _ => F4
      rename News _ _ _ _ => N4
      rename IntsAre _ (List.take _ _) => I4
      rename @LT.lt Nat _ _ _ => l4
      obtain ⟨Tx, n0, a0, b0, ta0, tb0, M, hle1, hle2, hxT, N5, F5, e1, e2, e3⟩ : ∃ Tx n0 a b ta tb M, Str.length a ≤ 6 ∧ Str.length b ≤ 6 ∧ @LT.lt Nat _ Tx _ ∧ News s1.heap _ _ ((_, W.listOf (List.toArray _) 0) :: [(Tx, W.listOf #[.str a ta, .str b tb] n0)]) ∧ Fr s1.heap s1.heap.objs.size _ M ∧ M "head" = some (.int hv th) ∧ M "letters" = some (.str ls tl) ∧ M "texts" = some (.ref Tx) := ⟨_, _, _, _, _, _, _, by decide, by decide, l4, N4, F4, rfl, rfl, rfl⟩
      refine iter_listU (fun _ mm news => ∃ n a b ta tb, news = [(Tx, W.listOf #[.str a ta, .str b tb] n)] ∧ Str.length a ≤ 6 ∧ Str.length b ≤ 6 ∧ mm "head" = some (.int hv th) ∧ mm "letters" = some (.str ls tl) ∧ mm "texts" = some (.ref Tx)) rfl F5 N5 ?_ ?_ ?_ ?_
      · intro p hp
        rw [List.mem_singleton.mp hp]
        exact Nat.ne_of_lt hxT
      · exact ⟨_, _, _, _, _, rfl, hle1, hle2, e1, e2, e3⟩
      · clear F4 N4 N5 F5 e1 e2 e3
        rintro i v mm news₁ s2 own hv2 ⟨n, a, b, ta, tb, rfl, ha6, hb6, e1, e2, e3⟩ hoff F2 N2
        obtain ⟨z, tz, rfl⟩ := ints_at I4 hv2
        have F3 := fr_give F2 (x := "head") (v := .int hv th) (by exact e1)
        have F4 := fr_give F3 (x := "letters") (v := .str ls tl) (by exact e2)
        have F5 := fr_give F4 (x := "texts") (v := .ref Tx) (by exact e3)
        clear F2 F3 F4
        simp only [List.cons_append, List.nil_append] at N2
        have hap : ∀ p ∈ own, p.1 ≠ Tx := fun p hp e => hoff _ (.head _) p hp e.symm
        have hll : 2 ≤ ls.length ∧ ls.length ≤ 3 := by
          rcases hls with rfl | rfl <;> decide
        clear hls
        have hz1 := fmod_two z
        have hz2 := fmod_in (z.fdiv 2) (n := ls.length) (by omega)
        k_steps
        all_goals (
          rename Fr _ _ _ _ => F6
          rename News _ _ _ _ => N6
          exact ⟨rfl, _, _, _, _, rfl, F6, news_pick N6 (.head _) News.nil, news_sub N6 (fun _ hp => .tail _ hp), loop_off hap, ⟨_, _, _, _, _, rfl, by omega, by omega, rfl, rfl, rfl⟩⟩)
      · clear F4 N4 N5 F5 e1 e2 e3
        rintro mm news₁ h4 tk4 ⟨n, a, b, ta, tb, rfl, ha6, hb6, e1, e2, e3⟩ F2 N2
        have F3 := fr_give F2 (x := "head") (v := .int hv th) (by exact e1)
        have F5 := fr_give F3 (x := "texts") (v := .ref Tx) (by exact e3)
        clear F2 F3
        have hed1 := ed_dist (like a b) _ a.length b.length (Nat.le_refl _)
        have hed2 := ed_lcs (like a b) _ a.length b.length (Nat.le_refl _)
        repeat' ((fail_if_success (with_reducible show wpAny _ _ (execs (Stmt.If _ _ _ _ :: _) _) _ _ _)); first | (k_unfold; (try dsimp only)) | walk1 | (dsimp only; walk1) | (dsimp only; k_unfold; (try dsimp only)))
        refine cutK (by k_asm) (by k_asm) ?_ ?_
        · repeat' ((fail_if_success (with_reducible show SameR _ _ _ _ _ _ _)); first | (k_unfold; (try dsimp only)) | walk1 | (dsimp only; walk1) | (dsimp only; k_unfold; (try dsimp only)))
          all_goals first
            | (exfalso; omega)
            | (rename Fr _ _ _ _ => F9; rename News _ _ _ _ => N9; exact ⟨rfl, _, _, rfl, F9, N9⟩)
        · intro h5 tk5 F7 N7
          refine cutK (by k_asm) (by k_asm) ?_ ?_
          · repeat' ((fail_if_success (with_reducible show SameR _ _ _ _ _ _ _)); first | (k_unfold; (try dsimp only)) | walk1 | (dsimp only; walk1) | (dsimp only; k_unfold; (try dsimp only)))
            all_goals first
              | (exfalso; omega)
              | (rename Fr _ _ _ _ => F9; rename News _ _ _ _ => N9; exact ⟨rfl, _, _, rfl, F9, news_sub N9 fun _ hp => .tail _ (.tail _ hp)⟩)
          · intro h6 tk6 F8 N8
            dsimp only
            clear F7 N7
            rename List.length _ = ed true _ _ _ + 1 => hln
            rename (∀ (k : Nat) (p : Addr × Obj), _ = some p → RowD w true _ _ _ k p) => hrw
            have hz3 := fmod_far (hv.fdiv 2) (ed true (like a b) a.length b.length)
            have hg0 := ed_gap true (like a b) _ a.length b.length (Nat.le_refl _)
            repeat' ((fail_if_success (with_reducible show wpAny _ _ (execs [_, _, _, _, _] _) _ _ _)); first | (k_unfold; (try dsimp only)) | walk1 | (dsimp only; walk1) | (dsimp only; k_unfold; (try dsimp only)))
            dsimp only
            rename Fr _ _ _ _ => F9
            rename News _ _ _ _ => N9
            generalize Int.fmod (Int.fdiv hv 2) _ = ev at F9 hz3
            obtain ⟨k0, rfl⟩ := Int.eq_ofNat_of_zero_le hz3.1
            obtain ⟨⟨dd, oo⟩, hp⟩ : ∃ p, _ = some p := ⟨_, List.getElem?_eq_getElem (show k0 < _ from by rw [hln]; omega)⟩
            obtain ⟨kvs, hdict, hfr, hsys⟩ := hrw _ _ hp
            have hpm := List.mem_of_getElem? hp
            replace N9 := news_add N9 (p := (dd, oo)) (by repeat' (first | exact List.mem_append_left _ hpm | refine List.Mem.tail _ ?_))
            have hk0 : k0 ≤ 12 := by omega
            clear hrw hpm
            dsimp only at hdict hsys
            repeat' ((fail_if_success (with_reducible show wpAny _ _ (execs [_, _] _) _ _ _)); first | (k_unfold; (try dsimp only)) | walk1 | (dsimp only; walk1) | (dsimp only; k_unfold; (try dsimp only)))
            dsimp only
            refine cutK (by k_asm) (by k_asm) ?_ ?_
            · repeat' ((fail_if_success (with_reducible show SameR _ _ _ _ _ _ _)); first | (k_unfold; (try dsimp only)) | walk1 | (dsimp only; walk1) | (dsimp only; k_unfold; (try dsimp only)))
              all_goals first
                | (exfalso; omega)
                | (rename Fr _ _ _ _ => G9; rename News _ _ _ _ => H9; exact ⟨rfl, _, _, rfl, G9, H9⟩)
            · intro h7 tk7 F8 N8
              dsimp only
              repeat' ((fail_if_success (show GoodW _ _ _ _ _ (Except.ok _) _)); first | (k_unfold; (try dsimp only)) | walk1 | (dsimp only; walk1) | (dsimp only; k_unfold; (try dsimp only)))
              all_goals (
                rename Fr _ _ _ _ => G9
                show GoodW _ _ _ _ _ (.ok (.ret (.bool _))) _
                refine end_true G9 (by assumption) ?_)
              all_goals first
                | (simp only [beq_iff_eq]; omega)
                | (simp only [decide_eq_true_eq]; omega)

end Mine
end
theorem PySem.Challenge.cw_fq5040_01_holds : PySem.Challenge.rw_fq5040_01.Holds := by
  exact Mine.law_t
