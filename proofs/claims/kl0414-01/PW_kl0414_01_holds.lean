import PyProof.Rows.All
import Wide.All
import OpenK.AllK
import Wide.FinOn
import PySem.Challenge.RW_kl0414_01
open PySem PySem.W PyProof.Rows
set_option Elab.async false
set_option compiler.extract_closed false
set_option maxRecDepth 100000
set_option maxHeartbeats 8000000
namespace Mine
open_top hd for PySem.Challenge.rw_kl0414_01
end Mine
-- part KC
namespace Mine
theorem partKC {M : Model} {A : Around} {v : Value} {Q : Value → Shared → Prop} {E : Value → Shared → Prop} {s : Shared} (h : Q v s) : wpAny M A (pure v : Sem Value) Q E s := by
  w_top off
  first | (walk1; exact h) | exact wpAny_pure h
end Mine
open PySem PySem.W PyProof.Rows PySem.Calls
set_option maxRecDepth 100000
set_option maxHeartbeats 8000000
namespace Mine

theorem fc_one {k h g l c p kp} : frameCount (List.map Frame.where_ [Frame.ret k h g l c p kp]) = c.weight := by simp [frameCount, Frame.where_]
theorem uc_one {k h g l c p kp} : unitsOf (List.map Frame.where_ [Frame.ret k h g l c p kp]) = c.cUnits := by simp [unitsOf, Frame.where_]
theorem fc_nil : frameCount (List.map Frame.where_ []) = 0 := rfl
theorem uc_nil : unitsOf (List.map Frame.where_ []) = 0 := rfl
theorem weight_func {b e} : (Code.func b e).weight = 1 := rfl
theorem weight_while {a b c e} : (Code.whileLoop a b c e).weight = 0 := rfl
theorem cu_func {b e} : (Code.func b e).cUnits = 3 := rfl
theorem cu_while {a b c e} : (Code.whileLoop a b c e).cUnits = 0 := rfl
end Mine
local macro_rules | `(tactic| walk_at "mine room") => `(tactic| ((case a => (first | omega | ((try simp only [Mine.fc_one, Mine.weight_func, Mine.weight_while, Mine.fc_nil]); (try simp only [depth_in1, depth_deeper]); (try dsimp only [Around.deeper, Around.in1]); omega))); (case c => (first | omega | ((try simp only [Mine.uc_one, Mine.cu_func, Mine.cu_while, Mine.uc_nil]); (try simp only [units_in1, units_deeper]); (try dsimp only [Around.deeper, Around.in1]); omega)))))
namespace Mine
theorem bfalse {b : Bool} (h : b = false) : ¬ b = true := by rw [h]; exact Bool.false_ne_true
def Keep (h h' : Heap) : Prop := ∀ b o, h.get? b = some o → h'.get? b = some o

section
variable {prog : Program} {w : World} {A : Around} {s : Shared} {K : Frag}
/-- A plain def of the text is called: its body is walked over a ground of its own, the heap at the call. -/
theorem callB {R : Result → Shared → Prop} {name : Str} {params : Arguments} {body : List Stmt} {scope : Scope} {doc pm cdv oc : Value} {od : Option Addr} {osl : Array (Option Value)} {f : Addr} {args : List Value} {binds : List (Str × Value)}
    (X : K.In s.heap) (free : s.heap.NoLimit) (room : A.depth < recursionLimit) (at_ : K.lookup f = some ⟨oc, od, .func (docDef name params body scope pm cdv doc), osl⟩) (code : codeIn K cdv name = true)
    (bind : bindArgs (docDef name params body scope pm cdv doc) ⟨args, []⟩ = pure binds) (loc : ∀ y ∈ binds, scope.names.lookup y.1 = some .local)
    (h : ∀ h₁, Fr s.heap s.heap.objs.size h₁ (fun y => binds.reverse.lookup y) → wpAny (model prog w) (A.deeper (envOf name scope s.heap.objs.size f cdv)) (execs body (envOf name scope s.heap.objs.size f cdv))
      (fun fl s' => R (.ok (.ret (match fl with | .ret v => v | _ => .none))) s') (fun _ _ => False) { s with heap := h₁, toks := s.toks + binds.length })
    (nocell : ∀ y ∈ scope.names, y.2 ≠ .cell) (plain : scope.isCoroutine = false) (nogen : scope.isGenerator = false) (isf : scope.kind = .function) : codeAny (model prog w) A (.call (.ref f) ⟨args, []⟩) R s :=
  call_plain_ret room (X _ _ at_) rfl free (codeRec_of X code) bind loc h plain nogen isf nocell
end

section
variable {w : World} {dp un : Nat} {fr : Option (List Env)} {gd : Option (List Code)} {s : Shared} {mean : ExcName → Option Value} {mg mb : Str → Option Value}

theorem c_kind {R : Result → Shared → Prop} {n x : Str} {t u : Tok} (X : (hd.heap_39 w.params).In s.heap) (T : Top hd.view_39 (looseW hd.view_39 []) mean mg mb s.heap) (hroom : dp + 10 < recursionLimit) (hu : un + 100 < cLine)
    (h : ∀ h' tk, Keep s.heap h' → ∀ t', R (.ok (.ret (.str (Str.ofString "") t'))) { s with heap := h', toks := tk }) :
    codeAny (model PySem.Challenge.rw_kl0414_01.row.prog w) (Around.mk none dp fr gd un) (.call (.ref 28) ⟨[.str n t, .str x u], []⟩) R s := by
  revert X; k_fill; intro X
  refine' callB (binds := [(Str.ofString "name", .str n t), (Str.ofString "x", .str x u)]) ?k1 ?k2 ?k3 ?k6 ?k7 ?k9 ?kB ?_ ?c5 ?c2 ?c3 ?c4
  case k1 => exact X
  case k2 => exact T.nolimit
  case k3 => (try dsimp only); omega
  case k6 => k_is
  case k7 => k_is
  case k9 => exact rfl
  case kB => exact locs rfl
  case c5 => decide
  case c2 => exact rfl
  case c3 => exact rfl
  case c4 => exact rfl
  intro h₁ F
  have N : News s.heap s.heap.objs.size h₁ [] := News.nil
  try dsimp only
  k_steps
  all_goals (dsimp only; (with_reducible rename Fr _ _ _ _ => kF); exact h _ _ kF.keep _)
end
local macro_rules | `(tactic| walk_at "call ref") => `(tactic| ((with_reducible show wpAny _ _ (call (Value.ref 28) _) _ _ _); (with_reducible rename Fr _ _ _ _ => kF); (with_reducible rename News _ _ _ _ => kN); refine' wpAny_call (c_kind (Frag.In.keeps (by k_asm) kF.keep) (Top.keeps (by k_asm) kF.keep) ?a ?c  ?_); walk_at "mine room"; intro h' tk' kK t'; have F' := kF.kept kK; have N' := kN.grown kK; clear kF kN; (try dsimp only)))
section
variable {w : World} {dp un : Nat} {fr : Option (List Env)} {gd : Option (List Code)} {s : Shared} {mean : ExcName → Option Value} {mg mb : Str → Option Value}
theorem c_fspath {R : Result → Shared → Prop} {n x : Str} {t u : Tok} (X : (hd.heap_39 w.params).In s.heap) (T : Top hd.view_39 (looseW hd.view_39 []) mean mg mb s.heap) (hroom : dp + 20 < recursionLimit) (hu : un + 200 < cLine)
    (h : ∀ h' tk, Keep s.heap h' → R (.ok (.ret (.str x u))) { s with heap := h', toks := tk }) :
    codeAny (model PySem.Challenge.rw_kl0414_01.row.prog w) (Around.mk none dp fr gd un) (.call (.ref 35) ⟨[.str n t, .str x u], []⟩) R s := by
  revert X; k_fill; intro X
  refine' callB (binds := [(Str.ofString "name", .str n t), (Str.ofString "x", .str x u)]) ?k1 ?k2 ?k3 ?k6 ?k7 ?k9 ?kB ?_ ?c5 ?c2 ?c3 ?c4
  case k1 => exact X
  case k2 => exact T.nolimit
  case k3 => (try dsimp only); omega
  case k6 => k_is
  case k7 => k_is
  case k9 => exact rfl
  case kB => exact locs rfl
  case c5 => decide
  case c2 => exact rfl
  case c3 => exact rfl
  case c4 => exact rfl
  intro h₁ F
  have N : News s.heap s.heap.objs.size h₁ [] := News.nil
  try dsimp only
  k_steps
  all_goals (dsimp only; (with_reducible rename Fr _ _ _ _ => kF); exact h _ _ kF.keep)
end
local macro_rules | `(tactic| walk_at "call ref") => `(tactic| ((with_reducible show wpAny _ _ (call (Value.ref 35) _) _ _ _); (with_reducible rename Fr _ _ _ _ => kF); (with_reducible rename News _ _ _ _ => kN); refine' wpAny_call (c_fspath (Frag.In.keeps (by k_asm) kF.keep) (Top.keeps (by k_asm) kF.keep) ?a ?c  ?_); walk_at "mine room"; intro h' tk' kK; have F' := kF.kept kK; have N' := kN.grown kK; clear kF kN; (try dsimp only)))
section
variable {w : World} {dp un : Nat} {fr : Option (List Env)} {gd : Option (List Code)} {s : Shared} {mean : ExcName → Option Value} {mg mb : Str → Option Value}
/-- what split leaves: the head (cut at the last slash, its slashes struck from the end) and the tail -/
def cutAt (x : Str) : Int := Txt.rfind x (Str.ofString "/") + 1
def splitHead (x : Str) : Str :=
  if ((Txt.slice x none (some (Txt.rfind x (Str.ofString "/") + 1))).length : Int) = 0 then Txt.slice x none (some (Txt.rfind x (Str.ofString "/") + 1))
  else if (Txt.slice x none (some (Txt.rfind x (Str.ofString "/") + 1)) != Txt.mul (Str.ofString "/") ((Txt.slice x none (some (Txt.rfind x (Str.ofString "/") + 1))).length : Int)) = true then
    Txt.rstripChars (Txt.slice x none (some (Txt.rfind x (Str.ofString "/") + 1))) (Str.ofString "/")
  else Txt.slice x none (some (Txt.rfind x (Str.ofString "/") + 1))
theorem c_split {R : Result → Shared → Prop} {x : Str} {u : Tok} (X : (hd.heap_39 w.params).In s.heap) (T : Top hd.view_39 (looseW hd.view_39 []) mean mg mb s.heap) (hroom : dp + 30 < recursionLimit) (hu : un + 300 < cLine)
    (hx : x.length ≤ 10000)
    (h : ∀ h' tk a y z t₁ t₂, Keep s.heap h' → y = splitHead x → y.length ≤ x.length → z.length ≤ x.length → IsTup h' a #[.str y t₁, .str z t₂] → R (.ok (.ret (.ref a))) { s with heap := h', toks := tk }) :
    codeAny (model PySem.Challenge.rw_kl0414_01.row.prog w) (Around.mk none dp fr gd un) (.call (.ref 42) ⟨[.str x u], []⟩) R s := by
  revert X; k_fill; intro X
  refine' callB (binds := [(Str.ofString "p", .str x u)]) ?k1 ?k2 ?k3 ?k6 ?k7 ?k9 ?kB ?_ ?c5 ?c2 ?c3 ?c4
  case k1 => exact X
  case k2 => exact T.nolimit
  case k3 => (try dsimp only); omega
  case k6 => k_is
  case k7 => k_is
  case k9 => exact rfl
  case kB => exact locs rfl
  case c5 => decide
  case c2 => exact rfl
  case c3 => exact rfl
  case c4 => exact rfl
  intro h₁ F
  have N : News s.heap s.heap.objs.size h₁ [] := News.nil
  try dsimp only
  k_steps
  all_goals (dsimp only; (with_reducible rename Fr _ _ _ _ => kF); (with_reducible rename News _ _ _ _ => kN); refine h _ _ _ _ _ _ _ kF.keep ?_ ?_ ?_ (News.isTup kN (List.Mem.head _)))
  all_goals first
    | omega
    | (unfold splitHead; rw [if_neg (by assumption), if_pos (by assumption)])
    | (unfold splitHead; rw [if_neg (by assumption), if_neg (bfalse (by assumption))])
    | (unfold splitHead; rw [if_pos (by assumption)])
end
end Mine
-- part KG
namespace Mine
theorem partKG {M : Model} {A : Around} {v : Value} {Q : Value → Shared → Prop} {E : Value → Shared → Prop} {s : Shared} (h : Q v s) : wpAny M A (pure v : Sem Value) Q E s := by
  w_top off
  first | (walk1; exact h) | exact wpAny_pure h
end Mine
open PySem PySem.W PyProof.Rows PySem.Calls
set_option maxRecDepth 100000
set_option maxHeartbeats 8000000
namespace Mine

/-- The ancestry of a text: what _ancestry tells of it, one after another. -/
inductive Anc : Str → List Str → Prop
  | nil {p : Str} : ((Txt.rstripChars p (Str.ofString "/")).length : Int) = 0 → Anc p []
  | cons {p : Str} {l : List Str} : ((Txt.rstripChars p (Str.ofString "/")).length : Int) ≠ 0 → Anc (splitHead p) l → Anc p (p :: l)

section
variable {prog : Program} {w : World} {A : Around} {s : Shared} {K : Frag}
theorem callG {R : Result → Shared → Prop} {name qual : Str} {params : Arguments} {body : List Stmt} {scope : Scope} {dV kV doc pm cdv ct oc : Value} {an od : Option Addr} {osl : Array (Option Value)} {f : Addr} {args : Args} {binds : List (Str × Value)}
    (X : K.In s.heap) (hlim : s.heap.NoLimit) (hroom : A.depth < recursionLimit)
    (ho : K.lookup f = some ⟨oc, od, .func (fnOf name qual params body scope dV kV doc pm an cdv ct), osl⟩) (hcd : codeIn K cdv qual = true)
    (hbind : BindsTo s (fnOf name qual params body scope dV kV doc pm an cdv ct) args binds) (hloc : ∀ y ∈ binds, scope.names.lookup y.1 = some .local)
    (h : ∀ h₁ tk t₁ t₂, Fr s.heap s.heap.objs.size h₁ (fun y => binds.reverse.lookup y) →
      R (.ok (.ret (.ref h₁.objs.size))) { s with heap := h₁.push { cls := .type "generator", data := .fields #[.int s.gens.size 0, .str name t₁, .str qual t₂] },
                                                  gens := s.gens.push (.fresh (.func body (envOf qual scope s.heap.objs.size f cdv))), toks := tk })
    (hcell : ∀ x ∈ scope.names, x.2 ≠ .cell) (hco : scope.isCoroutine = false) (hgen : scope.isGenerator = true) (hk : scope.kind = .function) :
    codeAny (model prog w) A (.call (.ref f) args) R s := by
  refine codeAny_call_generator (fd := fnOf name qual params body scope dV kV doc pm an cdv ct) (body := body) hroom (X _ _ ho) rfl hco hgen rfl (codeRec_of X hcd) (hbind _ _ _ _ ?_)
  refine wpAny_newFunctionEnv hcell hloc (fun h₁ hns hsb => ⟨hlim.fresh _ hsb, h _ _ _ _ ⟨hns, fun b o e => ?_, Nat.le_refl _⟩⟩) hk
  exact hsb.extBut b o (Nat.ne_of_lt (Heap.lt_size e)) (Heap.get?_push_of_some _ e)
end

/-- The generator's protocol: it hands on the list's texts in order, and stores into its own frame alone. -/
def ancProto (hb : Heap) (Lg : Addr) (l₀ : List Str) : Protocol := fun m s₀ v s kap =>
  (∃ x t, l₀[l₀.length - 1 - m]? = some x ∧ v = .str x t) ∧ GenSince Lg [] s₀ s ∧ (∃ oL, s.heap.get? Lg = some oL) ∧
    ∀ (s'' : Shared), Keep hb s''.heap → s''.heap.get? Lg = s.heap.get? Lg → kap (.send .none) s''
def ancEnd (Lg : Addr) : GenEnd := fun n s₀ r s₁ => r = .ok (.ret .none) ∧ (n = 0 ∧ GenSince Lg [] s₀ s₁)

def AncAt (w : World) (A : Around) (hb : Heap) (a : Addr) (g : Nat) (Lg : Addr) (l₀ : List Str) (j : Nat) (s : Shared) : Prop :=
  s.heap.IsGen a g ∧ Keep hb s.heap ∧ ∃ gs oL, s.gens[g]? = some gs ∧ s.heap.get? Lg = some oL ∧ ∀ (s'' : Shared), Keep hb s''.heap → s''.heap.get? Lg = some oL →
    gs.Goes (model PySem.Challenge.rw_kl0414_01.row.prog w) A.in1 (ancEnd Lg) (ancProto hb Lg l₀) (l₀.length - j) (.send .none) s''

/-- every object of the heap but the generator's frame and the ground's own -/
def others (hb : Heap) (Lg : Addr) (h : Heap) : List (Addr × Obj) := ownOf hb ((List.range h.objs.size).filter fun b => decide (b ≠ Lg)) h
theorem news_others {hb h : Heap} {Lg : Addr} : News hb Lg h (others hb Lg h) := news_ownOf (by simp)
def AncP (hb : Heap) (Lg : Addr) (s : Shared) (q : Str) (s' : Shared) : Prop :=
  ∃ h' tk m' t, s' = { s with heap := h', toks := tk } ∧ Fr hb Lg h' m' ∧ m' (Str.ofString "path") = some (.str q t) ∧ ∀ b o, b ≠ Lg → s.heap.get? b = some o → h'.get? b = some o
theorem AncP.intro {hb h' : Heap} {Lg : Addr} {s : Shared} {q : Str} {t : Tok} {tk : Nat} {m' : Str → Option Value} {nw : List (Addr × Obj)} (hK : Keep hb s.heap) (F : Fr hb Lg h' m') (N : News hb Lg h' nw) (hs : ∀ p ∈ others hb Lg s.heap, p ∈ nw)
    (hm : m' (Str.ofString "path") = some (.str q t)) : AncP hb Lg s q { s with heap := h', toks := tk } := by
  refine ⟨h', tk, m', t, rfl, F, hm, fun b o hb' e => ?_⟩
  cases z : hb.get? b with
  | some o' =>
    have := hK b o' z
    rw [e] at this
    cases this
    exact F.keep b o z
  | none => exact (N _ (hs _ (mem_ownOf (by simpa using ⟨Heap.lt_size e, hb'⟩) z e))).1
theorem sub_refl {l : List (Addr × Obj)} : ∀ p ∈ l, p ∈ l := fun _ h => h
theorem sub_cons {l l' : List (Addr × Obj)} {x : Addr × Obj} (h : ∀ p ∈ l, p ∈ l') : ∀ p ∈ l, p ∈ x :: l' := fun p hp => List.mem_cons_of_mem _ (h p hp)

section
variable {M : Model} {A : Around} {R : GenEnd} {Y : Protocol} {n : Nat} {s₀ : Shared} {c : Code} {fs : List Frame} {s : Shared} {env : Env}
  {K : Flow → Sem PySem.Fin} {H : Value → Sem PySem.Fin} {gd : Bool → Bool} {lv : List Value → List Value}
theorem seg_step {st : Stmt} {rest : List Stmt} {P : Shared → Prop} (h : wpAny M (A.over c fs) (exec st env) (fun f s' => f = .next ∧ P s') (fun _ _ => False) s)
    (k : ∀ s', P s' → Seg M A R Y n s₀ c ((execs rest env).wrap K H gd lv) fs s') : Seg M A R Y n s₀ c ((execs (st :: rest) env).wrap K H gd lv) fs s := by
  refine seg_execs_cons (seg_wrap (wpAny_mono h (fun f s' hf => ?_) fun _ _ x => x.elim))
  obtain ⟨rfl, hp⟩ := hf
  exact k s' hp
end
theorem AncP.there {hb : Heap} {Lg : Addr} {s s' : Shared} {q : Str} (x : AncP hb Lg s q s') : ∃ oL, s'.heap.get? Lg = some oL := by
  obtain ⟨h', tk, m', t, rfl, F, _, _⟩ := x
  obtain ⟨o, _, _, e, _⟩ := F.ns
  exact ⟨o, e⟩
theorem AncP.since {hb : Heap} {Lg : Addr} {s₀ s s' : Shared} {q : Str} (x : AncP hb Lg s q s') (g : GenSince Lg [] s₀ s) : GenSince Lg [] s₀ s' := by
  obtain ⟨h', tk, m', t, rfl, _, _, hk⟩ := x
  exact g.step fun b o hb _ e => hk b o hb e

section
variable {w : World} {A : Around} {hb : Heap} {Lg : Addr} {l₀ : List Str} {test e : Expr} {st : Stmt} {ypos pos : Pos} {env : Env} {fs : List Frame}
theorem anc_loop (hco : env.scope.isCoroutine = false) (hi : interactive env = false) (hfs : splitAtGen fs = none) (hfg : fs.any Frame.guarded = false)
    (hT : ∀ q t m' (s : Shared), Fr hb Lg s.heap m' → m' (Str.ofString "path") = some (.str q t) → q.length ≤ 1000 →
      wpAny (model PySem.Challenge.rw_kl0414_01.row.prog w) (A.over (.whileLoop test [.Expr (.Yield (some e) ypos) pos, st] [] env) fs) (isTrue test env (eval test env))
        (fun b s' => (b = true ↔ ((Txt.rstripChars q (Str.ofString "/")).length : Int) ≠ 0) ∧ AncP hb Lg s q s') (fun _ _ => False) s)
    (hE : ∀ q t m' (s : Shared), Fr hb Lg s.heap m' → m' (Str.ofString "path") = some (.str q t) → q.length ≤ 1000 →
      wpAny (model PySem.Challenge.rw_kl0414_01.row.prog w) (A.over (.whileLoop test [.Expr (.Yield (some e) ypos) pos, st] [] env) fs) (eval e env) (fun v s' => v = .str q t ∧ AncP hb Lg s q s') (fun _ _ => False) s)
    (hS : ∀ q t m' (s : Shared), Fr hb Lg s.heap m' → m' (Str.ofString "path") = some (.str q t) → q.length ≤ 1000 →
      wpAny (model PySem.Challenge.rw_kl0414_01.row.prog w) (A.over (.whileLoop test [.Expr (.Yield (some e) ypos) pos, st] [] env) fs) (exec st env)
        (fun f s' => f = .next ∧ ((splitHead q).length ≤ q.length ∧ AncP hb Lg s (splitHead q) s')) (fun _ _ => False) s)
    (hX : ∀ s₀ s', GenSince Lg [] s₀ s' → Seg (model PySem.Challenge.rw_kl0414_01.row.prog w) A (ancEnd Lg) (ancProto hb Lg l₀) 0 s₀ (.whileLoop test [.Expr (.Yield (some e) ypos) pos, st] [] env) (.pure (.done .next)) fs s') :
    ∀ (l' : List Str) (q : Str) (t : Tok) (m' : Str → Option Value) (s₀ s : Shared), Anc q l' → q.length ≤ 1000 → l' <:+ l₀ → Fr hb Lg s.heap m' → m' (Str.ofString "path") = some (.str q t) → GenSince Lg [] s₀ s →
      Seg (model PySem.Challenge.rw_kl0414_01.row.prog w) A (ancEnd Lg) (ancProto hb Lg l₀) l'.length s₀ (.whileLoop test [.Expr (.Yield (some e) ypos) pos, st] [] env)
        ((model PySem.Challenge.rw_kl0414_01.row.prog w).den (.whileLoop test [.Expr (.Yield (some e) ypos) pos, st] [] env)) fs s := by
  intro l'
  induction l' with
  | nil =>
    intro q t m' s₀ s ha hq hsuf F hm hg
    cases ha with
    | nil h0 =>
      refine seg_whileLoop (wpAny_mono (hT q t m' s F hm hq) (fun b s' hb' => ?_) fun _ _ x => x.elim)
      obtain ⟨hb', hp⟩ := hb'
      rw [if_neg (fun z => hb'.mp z h0)]
      refine seg_execs_nil ?_
      exact hX s₀ s' (hp.since hg)
  | cons x l' ih =>
    intro q t m' s₀ s ha hq hsuf F hm hg
    cases ha with
    | cons h0 ha =>
      refine seg_whileLoop (wpAny_mono (hT x t m' s F hm hq) (fun b s' hb' => ?_) fun _ _ z => z.elim)
      obtain ⟨hb', hp⟩ := hb'
      rw [if_pos (hb'.mpr h0)]
      have hg' := hp.since hg
      obtain ⟨h₁, tk₁, m₁, t₁, rfl, F₁, hm₁, hk₁⟩ := hp
      refine seg_execs_cons ?_
      show Seg _ _ _ _ (l'.length + 1) _ _ _ _ _
      refine seg_Expr_Yield hfs rfl hfg (wpAny_mono (hE x t₁ m₁ _ F₁ hm₁ hq) (fun v s' hv => ?_) fun _ _ z => z.elim) hco hi
      obtain ⟨rfl, hp⟩ := hv
      intro kap hkap
      refine ⟨⟨x, t₁, ?_, rfl⟩, hp.since hg', hp.there, fun s'' hK hL => hkap .none s'' ?_⟩
      · obtain ⟨pre, rfl⟩ := hsuf
        rw [List.length_append, List.length_cons, show pre.length + (l'.length + 1) - 1 - l'.length = pre.length by omega, List.getElem?_append_right (Nat.le_refl _), Nat.sub_self]
        rfl
      · obtain ⟨h₂, tk₂, m₂, t₂, rfl, F₂, hm₂, hk₂⟩ := hp
        have F₃ : Fr hb Lg s''.heap m₂ := ⟨F₂.ns.at' fun o e => hL.trans e, hK, F₂.above⟩
        refine seg_step (P := fun s' => (splitHead x).length ≤ x.length ∧ AncP hb Lg s'' (splitHead x) s') (hS x t₂ m₂ s'' F₃ hm₂ hq) fun s₅ hp => ?_
        refine seg_execs_nil ?_
        obtain ⟨hle, hp⟩ := hp
        have hg₅ := hp.since (GenSince.refl Lg [] s'')
        obtain ⟨h₄, tk₄, m₄, t₄, rfl, F₄, hm₄, hk₄⟩ := hp
        exact seg_again rfl (ih (splitHead x) t₄ m₄ s'' _ ha (Nat.le_trans hle hq) (List.IsSuffix.trans (List.suffix_cons _ _) hsuf) F₄ hm₄ hg₅)
end

local macro_rules | `(tactic| walk_at "call ref") => `(tactic| ((with_reducible show wpAny _ _ (call (Value.ref 42) _) _ _ _); (with_reducible rename Fr _ _ _ _ => kF); (with_reducible rename News _ _ _ _ => kN); refine' wpAny_call (c_split (Frag.In.keeps (by k_asm) kF.keep) (Top.keeps (by k_asm) kF.keep) ?a ?c (by first | assumption | omega) ?_); walk_at "mine room"; intro h' tk' a y z t₁ t₂ kK hy hl₁ hl₂ hT; have F' := kF.kept kK; have N' := kN.grown kK; clear kF kN; (try dsimp only)))
section
variable {w : World} {dp un : Nat} {fr : Option (List Env)} {gd : Option (List Code)} {s : Shared} {mean : ExcName → Option Value} {mg mb : Str → Option Value}
theorem c_ancestry {R : Result → Shared → Prop} {x : Str} {u : Tok} {l : List Str} (X : (hd.heap_39 w.params).In s.heap) (T : Top hd.view_39 (looseW hd.view_39 []) mean mg mb s.heap) (hroom : dp + 100 < recursionLimit) (hu : un + 1000 < cLine)
    (hx : x.length ≤ 1000) (hl : Anc (Txt.rstripChars x (Str.ofString "/")) l)
    (h : ∀ a g Lg s', AncAt w (Around.mk none dp fr gd un) s.heap a g Lg l 0 s' → Keep s.heap s'.heap → s.heap.objs.size ≤ Lg → Lg < a → a < s'.heap.objs.size → (∃ gs, gs.bare = true ∧ s'.gens = s.gens.push gs) → g = s.gens.size → s'.drawn = s.drawn → s'.os = s.os → R (.ok (.ret (.ref a))) s') :
    codeAny (model PySem.Challenge.rw_kl0414_01.row.prog w) (Around.mk none dp fr gd un) (.call (.ref 49) ⟨[.str x u], []⟩) R s := by
  revert X; k_fill; intro X
  refine' callG (binds := [(Str.ofString "path", .str x u)]) ?k1 ?k2 ?k3 ?k6 ?k7 ?k9 ?kB ?_ ?c5 ?c2 ?c3 ?c4
  case k1 => exact X
  case k2 => exact T.nolimit
  case k3 => (try dsimp only); omega
  case k6 => k_is
  case k7 => k_is
  case k9 => exact BindsTo.of_eq rfl
  case kB => exact locs rfl
  case c5 => decide
  case c2 => exact rfl
  case c3 => exact rfl
  case c4 => exact rfl
  intro h₁ tk t₁ t₂ F
  obtain ⟨oL, esL, epL, hoL, hdL, hkL, hfL⟩ := id F.ns
  refine h h₁.objs.size s.gens.size s.heap.objs.size _ ⟨⟨_, _, _, Heap.get?_push_size _ rfl, rfl, rfl, rfl⟩, fun b o e => Heap.get?_push_of_some _ (F.keep b o e), _, oL, Array.getElem?_push_size, Heap.get?_push_of_some _ hoL, ?_⟩ (fun b o e => Heap.get?_push_of_some _ (F.keep b o e)) (Nat.le_refl _) (Heap.lt_size hoL) (by dsimp only; rw [Heap.size_push]; exact Nat.lt_succ_self _) ⟨_, rfl, rfl⟩ rfl rfl rfl
  intro s₁ hK₁ hL₁
  refine ⟨rfl, ?_⟩
  have F₁ : Fr s.heap s.heap.objs.size s₁.heap (fun y => List.lookup y [(Str.ofString "path", Value.str x u)].reverse) := ⟨⟨oL, esL, epL, hL₁, hdL, hkL, hfL⟩, hK₁, Nat.le_refl _⟩
  have N₁ : News s.heap s.heap.objs.size s₁.heap (others s.heap s.heap.objs.size s₁.heap) := news_others
  clear F hfL hkL hdL hoL hL₁
  refine seg_func ?_
  refine seg_step (P := fun s' => (Txt.rstripChars x (Str.ofString "/")).length ≤ x.length ∧ AncP s.heap s.heap.objs.size s₁ (Txt.rstripChars x (Str.ofString "/")) s') ?_ ?_
  · k_steps
    all_goals first
      | trivial
      | assumption
      | (with_reducible rename Fr _ _ _ _ => kF; with_reducible rename News _ _ _ _ => kN; exact AncP.intro hK₁ kF kN sub_refl rfl)
  rintro s₂ ⟨hle, h₂, tk₂, m₂, t₃, rfl, F₂, hm₂, hk₂⟩
  refine seg_execs_cons ?_
  refine seg_While fun p => ?_
  replace hle := Nat.le_trans hle hx
  clear F₁ N₁ hK₁
  refine' anc_loop rfl rfl rfl rfl ?hT ?hE ?hS ?hX l _ t₃ m₂ _ _ hl hle (List.suffix_refl _) F₂ hm₂ ((GenSince.refl _ _ _).step fun b o hb _ e => hk₂ b o hb e)
  case hT =>
    intro q t m' s₅ F hm hq
    have N : News s.heap s.heap.objs.size s₅.heap (others s.heap s.heap.objs.size s₅.heap) := news_others
    have hK : Keep s.heap s₅.heap := F.keep
    replace F := Fr.known0 F hm
    k_steps
    all_goals first
      | (with_reducible rename Fr _ _ _ _ => kF; with_reducible rename News _ _ _ _ => kN; exact AncP.intro hK kF kN sub_refl rfl)
      | simp
  case hE =>
    intro q t m' s₅ F hm hq
    have N : News s.heap s.heap.objs.size s₅.heap (others s.heap s.heap.objs.size s₅.heap) := news_others
    have hK : Keep s.heap s₅.heap := F.keep
    replace F := Fr.known0 F hm
    k_steps
    all_goals first
      | trivial
      | (with_reducible rename Fr _ _ _ _ => kF; with_reducible rename News _ _ _ _ => kN; exact AncP.intro hK kF kN sub_refl rfl)
  case hS =>
    intro q t m' s₅ F hm hq
    have N : News s.heap s.heap.objs.size s₅.heap (others s.heap s.heap.objs.size s₅.heap) := news_others
    have hK : Keep s.heap s₅.heap := F.keep
    replace F := Fr.known0 F hm
    k_steps
    all_goals (rename (_ = splitHead _) => hy; subst hy)
    all_goals first
      | trivial
      | assumption
      | (with_reducible rename Fr _ _ _ _ => kF; with_reducible rename News _ _ _ _ => kN; exact AncP.intro hK kF kN sub_refl rfl)
  case hX =>
    intro s₀ s' hg
    refine seg_leaf (.ok .next) ?_
    show Seg _ _ _ _ 0 s₀ _ (leafOf (.ok (.ret .none))) [] s'
    exact seg_end _ ⟨rfl, rfl, hg⟩
end
end Mine
-- part KW
namespace Mine
theorem partKW {M : Model} {A : Around} {v : Value} {Q : Value → Shared → Prop} {E : Value → Shared → Prop} {s : Shared} (h : Q v s) : wpAny M A (pure v : Sem Value) Q E s := by
  w_top off
  first | (walk1; exact h) | exact wpAny_pure h
end Mine
open PySem PySem.W PyProof.Rows PySem.Calls
set_option maxRecDepth 100000
set_option maxHeartbeats 8000000
namespace Mine

section
variable {prog : Program} {w : World} {A : Around} {E : Value → Shared → Prop} {s : Shared}
/-- A StopIteration without arguments is made and raised: the heap has only grown. -/
theorem stopRaised {M : Model} {α β : Type} {k : α → Sem β} {Qa : β → Shared → Prop} (calm : A.handled = none)
    (h : ∀ h' x, Keep s.heap h' → Shared.TypeIs { s with heap := h' } (.ref x) "StopIteration" → E (.ref x) { s with heap := h' }) :
    wpAny M A (newExc (.type "StopIteration") [] >>= fun e => (raiseNew e : Sem α) >>= k) Qa E s := by
  have mem : firstArgMember (.type "StopIteration") [] = pure Value.none := by simp only [firstArgMember]; rfl
  unfold newExc newTuple
  refine wpAny_bind (wpAny_bind (wpAny_newObj_type (wpAny_bind (wpAny_of_eq mem (wpAny_newObj_type (wpAny_bind (wpAny_raiseNew_none calm ?_)) (by size_fits)))) (by size_fits)))
  exact h _ _ (fun b o e => Heap.get?_push_of_some _ (Heap.get?_push_of_some _ e)) ⟨_, Heap.get?_push_size _ rfl, rfl⟩
/-- How a def's generator goes on: it gives an item and rests without cleanup, or its frame has returned None. -/
structure GoesOn (prog : Program) (w : World) (A : Around) (g n : Nat) (P : Nat → Shared → Shared → Prop) (Y : Protocol) (Item : Value → Shared → Prop) (Gone : Shared → Prop) (s : Shared) : Prop where
  item : ∀ v s₁ gs', gs'.bare = true → Y (n - 1) (s.setGen g .running) v s₁ (fun r' s'' => match n with
      | 0 => False
      | m + 1 => gs'.Goes (model prog w) A (fun n s₀ r s₁ => r = .ok (.ret .none) ∧ P n s₀ s₁) Y m r' s'') → Item v (s₁.setGen g gs')
  gone : ∀ s₁, P n (s.setGen g .running) s₁ → ∀ h', Keep s₁.heap h' → Gone { s₁.setGen g .finished with heap := h' }
/-- Such a generator is woken. -/
theorem woken {a : Addr} {g n : Nat} {gs : GenState} {P : Nat → Shared → Shared → Prop} {Y : Protocol} {Item : Value → Shared → Prop} {Gone : Shared → Prop} (calm : A.handled = none) (free : s.heap.NoLimit) (room : A.depth < recursionLimit)
    (isg : s.heap.IsGen a g) (at_ : s.gens[g]? = some gs) (goes : gs.Goes (model prog w) A (fun n s₀ r s₁ => r = .ok (.ret .none) ∧ P n s₀ s₁) Y n (.send .none) (s.setGen g .running)) (on : GoesOn prog w A g n P Y Item Gone s) :
    wpAny (model prog w) A (Builtin.Generator.genWake (.ref a) (.send .none)) (fun fin s' => ∃ v, fin = .done (.ret v) ∧ Item v s') (fun e s' => (∃ x, e = .ref x ∧ s'.TypeIs (.ref x) "StopIteration") ∧ Gone s') s := by
  have live : ∀ {k : Unit → Sem Fin} {Q' : Fin → Shared → Prop} {E' : Value → Shared → Prop}, wpAny (model prog w) A (k ()) Q' E' s → wpAny (model prog w) A (roomToWake >>= k) Q' E' s := fun x => wpAny_bind (wpAny_roomToWake free room x)
  have ends : ∀ (k : PUnit → Sem Fin) s₁, P n (s.setGen g .running) s₁ → wpAny (model prog w) A (newExc (.type "StopIteration") [] >>= fun e => (raiseNew e : Sem PUnit) >>= k) (fun fin s' => ∃ v, fin = .done (.ret v) ∧ Item v s') (fun e s' => (∃ x, e = .ref x ∧ s'.TypeIs (.ref x) "StopIteration") ∧ Gone s') (s₁.setGen g .finished) :=
    fun _ s₁ hp => stopRaised calm fun h' x hk ht => ⟨⟨x, rfl, ht⟩, on.gone s₁ hp h' hk⟩
  unfold Builtin.Generator.genWake
  apply wpAny_bind
  apply wpAny_holding
  apply wpAny_genNumber isg
  apply wpAny_bind
  apply wpAny_genState at_
  match gs, goes with
  | .fresh c, goes =>
    refine live (wpAny_resumeQ at_ goes (fun x s₁ hx => ?_) fun v s₁ gs' hb hv => wpAny_pure ⟨v, rfl, on.item v s₁ gs' hb hv⟩)
    rw [hx.1]
    exact ends _ s₁ hx.2
  | .suspended k l c p fs cl, goes =>
    refine live (wpAny_resumeQ at_ goes (fun x s₁ hx => ?_) fun v s₁ gs' hb hv => wpAny_pure ⟨v, rfl, on.item v s₁ gs' hb hv⟩)
    rw [hx.1]
    exact ends _ s₁ hx.2
/-- next() of such a generator. -/
theorem nextOf {a : Addr} {g n : Nat} {gs : GenState} {P : Nat → Shared → Shared → Prop} {Y : Protocol} {Q : Option Value → Shared → Prop} (calm : A.handled = none) (free : s.heap.NoLimit) (room : A.depth < recursionLimit)
    (isg : s.heap.IsGen a g) (at_ : s.gens[g]? = some gs) (goes : gs.Goes (model prog w) A.in1 (fun n s₀ r s₁ => r = .ok (.ret .none) ∧ P n s₀ s₁) Y n (.send .none) (s.setGen g .running))
    (on : GoesOn prog w A.in1 g n P Y (fun v => Q (some v)) (Q none) s) : wpAny (model prog w) A (pyNext (.ref a)) Q E s := by
  have wake := wpAny_call_entry slot_gen_next isg.typeIs entry_gen_next (woken (A := A.in1) calm free room isg at_ goes on) (args_gen_next _)
  refine wpAny_bind (wpAny_attempt (wpAny_callSpecial?_slot isg.typeIs slot_gen_next (wpAny_mono wake (fun v s' hq => wpAny_pure hq) fun e s' he => ?_)))
  obtain ⟨⟨x, rfl, ht⟩, hq⟩ := he
  exact wpAny_bind (wpAny_isInstance ht isSubtype_stop (wpAny_pure hq))
end

section
variable {w : World} {A : Around} {hb : Heap} {a Lg : Addr} {g : Nat} {l₀ : List Str}
/-- One generator was run and rests: the others stand. -/
theorem rests {s : Shared} {gs gs' : GenState} (at_ : s.gens[g]? = some gs) (bare : gs'.bare = true) (h : Heap) (tk : Nat) :
    (({ s.setGen g .running with heap := h, toks := tk } : Shared).setGen g gs').gens[g]? = some gs' ∧ GenOnlyQ g s.gens (({ s.setGen g .running with heap := h, toks := tk } : Shared).setGen g gs').gens := by
  have one : (({ s.setGen g .running with heap := h, toks := tk } : Shared).setGen g gs').gens[g]? = some gs' := setGen_self (gs := .running) (setGen_self at_)
  exact ⟨one, GenOnlyQ.of ((GenOnly.setGen s g .running).trans (GenOnly.setGen _ g gs')) one bare⟩
/-- next() of the generator of _ancestry at its place j: the list's text, or the end. -/
theorem AncAt.next {j : Nat} {s : Shared} {Q : Option Value → Shared → Prop} {E : Value → Shared → Prop} (st : AncAt w A hb a g Lg l₀ j s) (calm : A.handled = none) (room : A.depth < recursionLimit) (free : hb.NoLimit) (apart : a ≠ Lg) (new : hb.objs.size ≤ Lg)
    (more : j < l₀.length → ∀ x t s', l₀[j]? = some x → AncAt w A hb a g Lg l₀ (j + 1) s' → Moved [Lg] (GenOnlyQ g) s s' → Q (some (.str x t)) s') (over : l₀.length ≤ j → ∀ s', Moved [Lg] (GenOnlyQ g) s s' → Q none s') :
    wpAny (model PySem.Challenge.rw_kl0414_01.row.prog w) A (pyNext (.ref a)) Q E s := by
  obtain ⟨isg, keep, gs, oL, at_, atL, goes⟩ := st
  have up : ∀ {h h' : Heap}, (∀ b o, b ≠ Lg → b ∉ ([] : List Addr) → h.get? b = some o → h'.get? b = some o) → ∀ b o, b ≠ Lg → h.get? b = some o → h'.get? b = some o := fun k b o ne e => k b o ne (fun q => nomatch q) e
  have old : ∀ b o, hb.get? b = some o → b ≠ Lg := fun b o e => Nat.ne_of_lt (Nat.lt_of_lt_of_le (Heap.lt_size e) new)
  have out : ∀ {b : Addr}, b ∉ [Lg] → b ≠ Lg := fun nb q => nb (q ▸ .head _)
  refine wpAny_with_toks (Nat.le_refl s.toks) (nextOf (P := fun n s₀ s₁ => n = 0 ∧ GenSince Lg [] s₀ s₁) calm (free.keeps keep) room isg at_ (goes _ keep atL) ⟨fun v s₁ gs' bare told later => ?_, fun s₁ gone h' grown later => ?_⟩)
  · obtain ⟨⟨x, t, here, rfl⟩, ⟨h₁, tk₁, rfl, moved⟩, ⟨oL', atL'⟩, on⟩ := told
    have moved := up moved
    obtain ⟨there, gens⟩ := rests at_ bare h₁ tk₁
    have keep₁ : Keep hb h₁ := fun b o e => moved b o (old b o e) (keep b o e)
    rcases left : l₀.length - j with _ | m
    · rw [left] at on
      exact (on { s.setGen g .running with heap := h₁, toks := tk₁ } keep₁ rfl).elim
    · rw [left] at on here
      have place : l₀.length - 1 - (m + 1 - 1) = j := by omega
      rw [place] at here
      refine more (by omega) x t _ here ?_ ⟨fun b o nb e => moved b o (out nb) e, gens, rfl, rfl, later⟩
      obtain ⟨o, nm, qn, ho, r⟩ := isg
      refine ⟨⟨o, nm, qn, moved a o apart ho, r⟩, keep₁, gs', oL', there, atL', fun s₂ keep₂ at₂ => ?_⟩
      rw [show l₀.length - (j + 1) = m by omega]
      exact on s₂ keep₂ (at₂.trans atL'.symm)
  · obtain ⟨zero, h₁, tk₁, rfl, moved⟩ := gone
    have moved := up moved
    exact over (by omega) _ ⟨fun b o nb e => grown b o (moved b o (out nb) e), (rests at_ (gs' := .finished) rfl h₁ tk₁).2, rfl, rfl, later⟩
/-- The generator of _ancestry is walked: it hands on the list's texts, and moves its own frame and its own state alone. -/
theorem anc_walks (calm : A.handled = none) (room : A.depth < recursionLimit) (free : hb.NoLimit) (apart : a ≠ Lg) (new : hb.objs.size ≤ Lg) :
    WalksS PySem.Challenge.rw_kl0414_01.row.prog w A a (a :: Lg :: List.range hb.objs.size) [Lg] (GenOnlyQ g) l₀.length (fun j y => ∃ x t, l₀[j]? = some x ∧ y = .str x t) (AncAt w A hb a g Lg l₀) where
  sub := fun b mem => List.mem_singleton.mp mem ▸ .tail _ (.head _)
  grefl := fun x => Or.inl (Eq.refl x)
  gtrans := fun x y z xy yz => GenOnlyQ.trans xy yz
  frame := fun j s h' tk st _ up => by
    obtain ⟨⟨o, nm, qn, ho, r⟩, keep, gs, oL, at_, atL, goes⟩ := st
    have low : ∀ b o, hb.get? b = some o → b ∈ a :: Lg :: List.range hb.objs.size := fun b o e => .tail _ (.tail _ (List.mem_range.mpr (Heap.lt_size e)))
    exact ⟨⟨o, nm, qn, up a (.head _) o ho, r⟩, fun b o e => up b (low b o e) o (keep b o e), gs, oL, at_, up Lg (.tail _ (.head _)) oL atL, goes⟩
  item := fun j s Q E lt st post => st.next calm room free apart new (fun _ x t s' here st' mv => post _ s' ⟨x, t, here, rfl⟩ st' mv) fun le => absurd lt (Nat.not_lt.mpr le)
  done := fun s Q E st post => st.next calm room free apart new (fun lt => absurd lt (Nat.lt_irrefl _)) fun _ s' mv => post s' mv
  self := fun _ _ _ _ st post => wpAny_pyIter_gen st.1 post
end
end Mine
-- part KL
namespace Mine
theorem partKL {M : Model} {A : Around} {v : Value} {Q : Value → Shared → Prop} {E : Value → Shared → Prop} {s : Shared} (h : Q v s) : wpAny M A (pure v : Sem Value) Q E s := by
  w_top off
  first | (walk1; exact h) | exact wpAny_pure h
end Mine
open PySem PySem.W PyProof.Rows PySem.Calls
set_option maxRecDepth 100000
set_option maxHeartbeats 8000000
namespace Mine

section
variable {prog : Program} {w : World} {A : Around} {E : Value → Shared → Prop} {R : Result → Shared → Prop} {s : Shared} {env : Env}
/-- What a comprehension asks behind its first iterator: its new value, its frame, and its turns. -/
def CompAt (prog : Program) (w : World) (A : Around) (env : Env) (scope : Scope) (cl : List (Str × Addr)) (fresh : Sem Value) (e : Expr) (use : Option (Value → Sem Unit)) (E Q : Value → Shared → Prop) (it : Value) (s : Shared) : Prop :=
  wpAny (model prog w) A fresh (fun acc s₁ => wpAny (model prog w) A (newFunctionEnv scope env.globals cl [] env.qual none .none (some env))
    (fun cenv s₂ => codeAny (model prog w) A (.compStart e 0 it acc { cenv with scope := relabel scope env }) (compPost (model prog w) A E use Q acc cenv.locals) s₂) E s₁) E s
/-- A list comprehension as a value. -/
theorem compEval {elt t iter : Expr} {ifs : List Expr} {gs : List Comprehension} {scope : Scope} {cl : List (Str × Addr)} {pos : Pos} {Q : Value → Shared → Prop} (free : closureFor scope env = pure cl) (isf : scope.kind = .function)
    (locs : ∀ z ∈ scope.names, z.2 = .local → scope.names.lookup z.1 = some .local)
    (src : wpAny (model prog w) A (eval iter env) (fun v s₁ => wpAny (model prog w) A (pyIter v) (CompAt prog w A env scope cl (newList []) (.ListComp elt (⟨t, iter, ifs, 0⟩ :: gs) scope pos) none E Q) E s₁) E s)
    (plain : ∀ v, foldedSetIterable iter env v = pure v := by intro _; rfl) : wpAny (model prog w) A (eval (.ListComp elt (⟨t, iter, ifs, 0⟩ :: gs) scope pos) env) Q E s :=
  (eval_ListComp (env := env) elt (⟨t, iter, ifs, 0⟩ :: gs) scope pos) ▸ wpAny_comprehension_free (use := none) rfl plain free isf locs src
/-- One that is stored under a name at once. -/
theorem compStore {elt t iter : Expr} {ifs : List Expr} {gs : List Comprehension} {y : Str} {py : Pos} {scope : Scope} {cl : List (Str × Addr)} {pos at_ : Pos} {Q : Flow → Shared → Prop}
    (swap : swapsWith (.ListComp elt (⟨t, iter, ifs, 0⟩ :: gs) scope pos) (some (.Name y py)) at_.line env = pure true) (free : closureFor scope env = pure cl) (isf : scope.kind = .function)
    (locs : ∀ z ∈ scope.names, z.2 = .local → scope.names.lookup z.1 = some .local)
    (src : wpAny (model prog w) A (eval iter env) (fun v s₁ => wpAny (model prog w) A (pyIter v) (CompAt prog w A env scope cl (newList []) (.ListComp elt (⟨t, iter, ifs, 0⟩ :: gs) scope pos) (some (assign (.Name y py) env)) E (fun _ s' => Q .next s')) E s₁) E s)
    (plain : ∀ v, foldedSetIterable iter env v = pure v := by intro _; rfl) : wpAny (model prog w) A (exec (.Assign [.Name y py] (.ListComp elt (⟨t, iter, ifs, 0⟩ :: gs) scope pos) at_) env) Q E s := by
  have run := wpAny_comprehension_free (e := .ListComp elt (⟨t, iter, ifs, 0⟩ :: gs) scope pos) (pos := firstIterPos (⟨t, iter, ifs, 0⟩ :: gs) pos) (use := some (assign (.Name y py) env)) rfl plain free isf locs src
  rw [exec_Assign_Name_used _ _ _ _ swap]
  exact wpAny_bind (wpAny_standAt (wpAny_bind (wpAny_bind (wpAny_mono run (fun _ _ q => wpAny_pure (wpAny_pure q)) fun _ _ q => q))))
/-- The new list and the new frame stand. -/
theorem compFresh {e : Expr} {it : Value} {scope : Scope} {cl : List (Str × Addr)} {use : Option (Value → Sem Unit)} {Q : Value → Shared → Prop} (nocell : ∀ z ∈ scope.names, z.2 ≠ .cell) (isf : scope.kind = .function)
    (h : ∀ D C h₁ m, D = s.heap.objs.size → C = D + 1 → Keep s.heap h₁ → h₁.PlainList D #[] → h₁.Ns C m →
      codeAny (model prog w) A (.compStart e 0 it (.ref D) (compEnvC scope cl C env)) (compPost (model prog w) A E use Q (.ref D) C) { s with heap := h₁, toks := s.toks + 0 }) :
    CompAt prog w A env scope cl (newList []) e use E Q it s := by
  refine wpAny_newObj_type (wpAny_newFunctionEnv nocell (fun z hz => nomatch hz) (fun h₁ ns same => ?_) isf)
  have up : ∀ b o, (s.heap.push { cls := .type "list", data := .seq ([] : List Value).toArray }).get? b = some o → h₁.get? b = some o :=
    fun b o e => same.extBut b o (Nat.ne_of_lt (Heap.lt_size e)) (Heap.get?_push_of_some _ e)
  exact h _ _ h₁ _ rfl (Heap.size_push ..) (fun b o e => up b o (Heap.get?_push_of_some _ e)) ⟨_, up _ _ (Heap.get?_push_size _ rfl)⟩ ns

theorem told_snoc {P : Nat → Value → Prop} {vs : List Value} {v : Value} (h : ∀ j u, vs[j]? = some u → P j u) (hv : P vs.length v) : ∀ j u, (vs ++ [v])[j]? = some u → P j u := fun j u e => by
  rw [List.getElem?_append] at e
  split at e
  · exact h j u e
  · match k : j - vs.length, e with
    | 0, e => cases e; rwa [show j = vs.length by omega]

theorem told_all {us vs : List Value} (len : us.length = vs.length) (told : ∀ (j : Nat) (v : Value), us[j]? = some v → vs[j]? = some v) : us = vs := List.ext_getElem? fun j => by
  rcases e : us[j]? with _ | v
  · exact (List.getElem?_eq_none (len ▸ List.getElem?_eq_none_iff.mp e)).symm
  · exact (told j v e).symm

section turns
variable {I D C : Addr} {fp wr : List Addr} {G : Array GenState → Array GenState → Prop} {n : Nat} {P : Nat → Value → Prop} {St : Nat → Shared → Prop} {p : Value → Bool} {F : Value → Value → Prop} {x : Str}
/-- Between the turns: vs were handed on, ys are kept. -/
structure Between (D C : Addr) (wr : List Addr) (G : Array GenState → Array GenState → Prop) (P : Nat → Value → Prop) (p : Value → Bool) (F : Value → Value → Prop) (s : Shared) (vs : List Value) (ys : Array Value) (s' : Shared) : Prop where
  acc : s'.heap.PlainList D ys
  frame : ∃ m, s'.heap.Ns C m
  told : ∀ j v, vs[j]? = some v → P j v
  made : Paired F (vs.filter p) ys.toList
  moved : Moved (C :: D :: wr) G s s'
/-- Amid a turn: v is the name's. -/
structure Amid (D C : Addr) (wr : List Addr) (G : Array GenState → Array GenState → Prop) (St : Nat → Shared → Prop) (x : Str) (v : Value) (s : Shared) (k : Nat) (ys : Array Value) (s' : Shared) : Prop where
  src : St k s'
  acc : s'.heap.PlainList D ys
  frame : ∃ m, s'.heap.Ns C m ∧ m x = some v
  moved : Moved (C :: D :: wr) G s s'
/-- A look changes nothing of it. -/
theorem Amid.look (W : WalksS prog w A I fp wr G n P St) {v : Value} {k : Nat} {ys : Array Value} {s₁ s₂ : Shared} (a : Amid D C wr G St x v s k ys s₁) (hk : Keeps s₁ s₂) (ht : s₁.toks ≤ s₂.toks) : Amid D C wr G St x v s k ys s₂ := by
  obtain ⟨h₂, tk, rfl, keep⟩ := hk
  obtain ⟨m, ns, mx⟩ := a.frame
  exact ⟨W.frame _ _ _ _ a.src ht fun b _ o e => keep b o e, a.acc.at fun o e => keep _ o e, ⟨m, ns.keeps keep, mx⟩, a.moved.then_heap ht fun b o _ e => keep b o e⟩
/-- The turns of a list comprehension over a source that may move generators too: tests and elements look only. -/
theorem turnsS {elt iter : Expr} {px : Pos} {ifs : List Expr} {scope : Scope} {pos : Pos} {cenv : Env} (W : WalksS prog w A I fp wr G n P St) (isC : cenv.locals = C)
    (hx : cenv.kindOf x = some .local) (hp : (cenv.scope.kind == .class || (cenv.scope.kind == .module && cenv.locals != cenv.globals)) = false) (apart : D ≠ C) (outD : D ∉ fp) (outC : C ∉ fp) (small : n ≤ sizeLine)
    (tests : ∀ i v k ys s₂, P i v → Amid D C wr G St x v s k ys s₂ → wpAny (model prog w) A (forIn ifs true fun c r => if r = true then do let ok ← isTrue c cenv (eval c cenv); pure (ForInStep.yield ok) else pure (ForInStep.yield r))
        (fun ok s₃ => ok = p v ∧ Keeps s₂ s₃) (fun _ _ => False) s₂)
    (each : ∀ i v k ys s₂, P i v → p v = true → Amid D C wr G St x v s k ys s₂ → wpAny (model prog w) A (eval elt cenv) (fun y s₃ => F v y ∧ Keeps s₂ s₃) (fun _ _ => False) s₂)
    (done : ∀ vs ys s', vs.length = n → Between D C wr G P p F s vs ys s' → R (.ok .next) s') (st : St 0 s) (acc : s.heap.PlainList D #[]) (frame : ∃ m, s.heap.Ns C m) :
    codeAny (model prog w) A (.compLoop (.ListComp elt [⟨.Name x px, iter, ifs, 0⟩] scope pos) 0 (.ref I) (.ref D) cenv) R s := by
  subst isC
  refine codeAny_compLoop_tests (fun k s' => ∃ vs ys, k = n + 1 - vs.length ∧ vs.length ≤ n ∧ St vs.length s' ∧ Between D cenv.locals wr G P p F s vs ys s') ?_ (n + 1) ⟨[], #[], rfl, Nat.zero_le _, st, acc, frame, (fun _ _ e => nomatch e), Paired.nil, Moved.refl W.grefl⟩
  rintro _ s' ⟨vs, ys, rfl, few, src, a⟩
  obtain ⟨m', ns⟩ := a.frame
  have wider : ∀ b ∈ wr, b ∈ cenv.locals :: D :: wr := fun b hb => .tail _ (.tail _ hb)
  rcases Nat.lt_or_ge vs.length n with lt | ge
  · have len : ∀ v : Value, (vs ++ [v]).length = vs.length + 1 := fun v => by simp
    refine W.item _ _ _ _ lt src fun v s₁ hv src₁ mv => ?_
    refine wpAny_assign_Name (wpAny_storeName_local hx (ns.at' fun o e => mv.heap _ o (fun q => outC (W.sub _ q)) e) (fun h₂ ns₂ same => ?_) hp)
    have off : ∀ b o, b ∉ cenv.locals :: D :: wr → s₁.heap.get? b = some o → h₂.get? b = some o := fun b o hb e => same.extBut b o (fun q => hb (q ▸ .head _)) e
    have mid : Amid D cenv.locals wr G St x v s (vs.length + 1) ys { s₁ with heap := h₂, toks := s₁.toks + 1 } :=
      ⟨W.frame _ _ _ _ src₁ (Nat.le_succ _) fun b hb o e => same.extBut b o (fun q => outC (q ▸ hb)) e, a.acc.at fun o e => same.extBut _ o apart (mv.heap _ o (fun q => outD (W.sub _ q)) e), ⟨_, ns₂, if_pos rfl⟩,
        a.moved.trans W.gtrans ((mv.mono wider).then_heap (Nat.le_succ _) off)⟩
    refine wpAny_mono (wpAny_toks_of (Nat.le_refl _) (tests _ v _ _ _ hv mid)) (fun ok s₃ ⟨t₃, eq, k₃⟩ => ?_) fun _ _ q => q.2.elim
    have mid₃ := mid.look W k₃ t₃
    subst eq
    cases pv : p v with
    | false =>
      rw [if_neg Bool.false_ne_true]
      refine ⟨_, ?_, vs ++ [v], ys, rfl, len v ▸ lt, len v ▸ mid₃.src, mid₃.acc, ⟨_, mid₃.frame.choose_spec.1⟩, told_snoc a.told hv, ?_, mid₃.moved⟩
      · rw [len]; omega
      · rw [List.filter_append, List.filter_cons_of_neg (by simp [pv])]; exact (List.append_nil _).symm ▸ a.made
    | true =>
      rw [if_pos rfl]
      refine wpAny_mono (wpAny_toks_of (Nat.le_refl _) (each _ v _ _ _ hv pv mid₃)) (fun y s₄ ⟨t₄, hy, k₄⟩ => ?_) fun _ _ q => q.2.elim
      have mid₄ := mid₃.look W k₄ t₄
      obtain ⟨m₄, ns₄, _⟩ := mid₄.frame
      have room : ys.size ≤ sizeLine := by
        have e1 := a.made.length
        have e2 := List.length_filter_le p vs
        have e3 : ys.toList.length = ys.size := by simp
        omega
      refine wpAny_list_append_plain (hsz := room) mid₄.acc fun h₅ acc₅ same₅ => ?_
      refine ⟨_, ?_, vs ++ [v], ys.push y, rfl, len v ▸ lt, len v ▸ W.frame _ _ _ _ mid₄.src (Nat.le_refl _) fun b hb o e => same₅.extBut b o (fun q => outD (q ▸ hb)) e, acc₅, ⟨_, ns₄.sameBut same₅ apart.symm⟩, told_snoc a.told hv, ?_,
        mid₄.moved.then_heap (Nat.le_refl _) fun b o hb e => same₅.extBut b o (fun q => hb (q ▸ .tail _ (.head _))) e⟩
      · rw [len]; omega
      · rw [List.filter_append, List.filter_cons_of_pos pv, Array.toList_push]; exact a.made.snoc hy
  · have all := Nat.le_antisymm few ge
    refine W.done _ _ _ (all ▸ src) fun s₁ mv => done vs ys s₁ all ?_
    have off : ∀ b, b ∉ fp → ∀ o, s'.heap.get? b = some o → s₁.heap.get? b = some o := fun b hb o e => mv.heap b o (fun q => hb (W.sub _ q)) e
    exact ⟨a.acc.at (off D outD), ⟨m', ns.at' (off _ outC)⟩, a.told, a.made, a.moved.trans W.gtrans (mv.mono wider)⟩
end turns
/-- The whole of such a comprehension behind its first iterator. -/
theorem compSrc {elt iter : Expr} {x : Str} {px : Pos} {ifs : List Expr} {scope : Scope} {cl : List (Str × Addr)} {pos : Pos} {use : Option (Value → Sem Unit)} {Q : Value → Shared → Prop} {I : Addr} {fp wr : List Addr} {G : Array GenState → Array GenState → Prop} {n : Nat} {P : Nat → Value → Prop} {St : Nat → Shared → Prop} {p : Value → Bool} {F : Value → Value → Prop}
    (W : WalksS prog w A I fp wr G n P St) (small : n ≤ sizeLine) (nocell : ∀ z ∈ scope.names, z.2 ≠ .cell) (isf : scope.kind = .function) (isx : scope.names.lookup x = some .local) (st : St 0 s) (low : ∀ b ∈ fp, b < s.heap.objs.size) (quiet : QuietOnC prog w A env scope cl x ifs elt wr P p F s)
    (fin : ∀ (D C : Nat) s' m ys (vs : List Value), s.heap.objs.size ≤ D → D < C → s'.heap.Ns C m → s'.heap.PlainList D ys → vs.length = n → (∀ j v, vs[j]? = some v → P j v) → Paired F (vs.filter p) ys.toList → Moved wr G s s' →
      compPost (model prog w) A E use Q (.ref D) C (.ok .next) s') :
    CompAt prog w A env scope cl (newList []) (.ListComp elt [⟨.Name x px, iter, ifs, 0⟩] scope pos) use E Q (.ref I) s := by
  refine compFresh nocell isf fun D C h₁ m eD eC keep acc ns => ?_
  have DC : (D : Nat) < C := eC ▸ Nat.lt_succ_self _
  have low' : ∀ b : Nat, b < s.heap.objs.size → b ≠ C ∧ b ≠ D := fun b hb => ⟨by omega, by omega⟩
  have notin : ∀ b o, b ∉ wr → s.heap.get? b = some o → b ∉ C :: D :: wr := fun b o hb e q => by
    obtain ⟨q1, q2⟩ := low' b (Heap.lt_size e)
    rcases List.mem_cons.mp q with q | q
    · exact q1 q
    · exact (List.mem_cons.mp q).elim q2 hb
  have kept : ∀ {s₂ : Shared}, Moved (C :: D :: wr) G { s with heap := h₁, toks := s.toks + 0 } s₂ → ∀ b o, b ∉ wr → s.heap.get? b = some o → s₂.heap.get? b = some o := fun mv b o hb e => mv.heap b o (notin b o hb e) (keep b o e)
  have high : s.heap.objs.size ≤ C := eD ▸ Nat.le_of_lt DC
  have st₁ : St 0 { s with heap := h₁, toks := s.toks + 0 } := W.frame _ s _ _ st (Nat.le_refl _) fun b _ o e => keep b o e
  have turns := turnsS (s := { s with heap := h₁, toks := s.toks + 0 }) (elt := elt) (iter := iter) (px := px) (ifs := ifs) (scope := scope) (pos := pos) (cenv := compEnvC scope cl C env) (D := D) (C := C) (p := p) (F := F) (R := compPost (model prog w) A E use Q (.ref D) C) W rfl (lookup_relabel_local isx) (by simp [compEnvC, relabel, isf])
    (Nat.ne_of_lt DC) (fun q => (low' D (low D q)).2 rfl) (fun q => (low' C (low C q)).1 rfl) small
    (fun i v k ys s₂ hv mid => let ⟨m₂, ns₂, mx⟩ := mid.frame; quiet.tests C i v s₂ m₂ _ high hv ns₂ mx (kept mid.moved) mid.moved.toks)
    (fun i v k ys s₂ hv pv mid => let ⟨m₂, ns₂, mx⟩ := mid.frame; quiet.elt C i v s₂ m₂ _ high hv pv ns₂ mx (kept mid.moved) mid.moved.toks)
    (fun vs ys s' all b => let ⟨m', ns'⟩ := b.frame; fin D C s' m' ys vs (Nat.le_of_eq eD.symm) DC ns' b.acc all b.told b.made ⟨kept b.moved, b.moved.gens, b.moved.drawn, b.moved.os, b.moved.toks⟩) st₁ acc ⟨m, ns⟩
  exact codeAny_compStart_list turns (W.self 0 _ _ _ st₁ turns)

/-- What a list comprehension asks behind its iterator. -/
def CompS (prog : Program) (w : World) (A : Around) (env : Env) (scope : Scope) (cl : List (Str × Addr)) (x : Str) (ifs : List Expr) (elt : Expr) (p : Value → Bool) (F : Value → Value → Prop) (Q : Value → Shared → Prop) (it : Value) (s₂ : Shared) : Prop :=
  ∃ I fp wr G n P St, it = .ref I ∧ WalksS prog w A I fp wr G n P St ∧ n ≤ sizeLine ∧ St 0 s₂ ∧ (∀ b ∈ fp, b < s₂.heap.objs.size) ∧
      QuietOnC prog w A env scope cl x ifs elt wr P p F s₂ ∧
      (∀ D s' ys (vs : List Value), s₂.heap.objs.size ≤ D → s₂.heap.get? D = none → s'.heap.PlainList D ys → vs.length = n → (∀ j v, vs[j]? = some v → P j v) → Paired F (vs.filter p) ys.toList →
        (∀ b o, b ∉ wr → s₂.heap.get? b = some o → s'.heap.get? b = some o) → G s₂.gens s'.gens → s'.drawn = s₂.drawn → s'.os = s₂.os → Q (.ref D) s')
/-- The same for one that is stored under a name y at once. -/
def CompA (prog : Program) (w : World) (A : Around) (env : Env) (scope : Scope) (cl : List (Str × Addr)) (x y : Str) (ifs : List Expr) (elt : Expr) (p : Value → Bool) (F : Value → Value → Prop) (Q : Flow → Shared → Prop) (it : Value) (s₂ : Shared) : Prop :=
  ∃ I fp wr G n P St m, it = .ref I ∧ WalksS prog w A I fp wr G n P St ∧ n ≤ sizeLine ∧ St 0 s₂ ∧ (∀ b ∈ fp, b < s₂.heap.objs.size) ∧
      env.locals ∉ wr ∧ s₂.heap.Ns env.locals m ∧ QuietOnC prog w A env scope cl x ifs elt wr P p F s₂ ∧
      (∀ D s' ys (vs : List Value), s₂.heap.objs.size ≤ D → s₂.heap.get? D = none → s'.heap.PlainList D ys → vs.length = n → (∀ j v, vs[j]? = some v → P j v) → Paired F (vs.filter p) ys.toList →
        s'.heap.Ns env.locals (fun z => if z = y then some (.ref D) else m z) → (∀ b o, b ≠ env.locals → b ∉ wr → s₂.heap.get? b = some o → s'.heap.get? b = some o) → G s₂.gens s'.gens → s'.drawn = s₂.drawn → s'.os = s₂.os → Q .next s')
theorem over {h : Heap} {a b : Nat} {o : Obj} (e : h.get? b = some o) (ha : h.objs.size ≤ a) : b ≠ a := Nat.ne_of_lt (Nat.lt_of_lt_of_le (Heap.lt_size e) ha)
/-- Its frame lets go: the list is the value. -/
theorem post_value {Q : Value → Shared → Prop} {D C : Nat} {s' : Shared} {m : Str → Option Value} (ns : s'.heap.Ns C m) (h : ∀ h', Heap.SameBut C s'.heap h' → Q (.ref D) { s' with heap := h' }) : compPost (model prog w) A E none Q (.ref D) C (.ok .next) s' := ⟨m, ns, h⟩
/-- The list is stored, then the frame lets go. -/
theorem post_store {Q : Shared → Prop} {y : Str} {py : Pos} {D C : Nat} {s' : Shared} {m mL : Str → Option Value} (ns : s'.heap.Ns C m) (nsL : s'.heap.Ns env.locals mL) (LC : env.locals ≠ C)
    (isy : env.kindOf y = some .local) (inf : (env.scope.kind == .class || (env.scope.kind == .module && env.locals != env.globals)) = false)
    (h : ∀ h₁ h₂, Heap.SameBut env.locals s'.heap h₁ → Heap.SameBut C h₁ h₂ → h₂.Ns env.locals (fun z => if z = y then some (.ref D) else mL z) → Q { s' with heap := h₂, toks := s'.toks + 1 }) :
    compPost (model prog w) A E (some (assign (.Name y py) env)) (fun _ s => Q s) (.ref D) C (.ok .next) s' :=
  wpAny_assign_Name (wpAny_storeName_local isy nsL (fun h₁ ns₁ same₁ => ⟨m, ns.sameBut same₁ LC.symm, fun h₂ same₂ => h h₁ h₂ same₁ same₂ (ns₁.sameBut same₂ LC)⟩) inf)
/-- A list comprehension over such a source, as a value. -/
theorem listComp_S {elt iter : Expr} {x : Str} {px : Pos} {ifs : List Expr} {scope : Scope} {cl : List (Str × Addr)} {pos : Pos} {Q : Value → Shared → Prop} (p : Value → Bool) (F : Value → Value → Prop) (free : closureFor scope env = pure cl) (nocell : ∀ z ∈ scope.names, z.2 ≠ .cell) (isf : scope.kind = .function)
    (locs : ∀ z ∈ scope.names, z.2 = .local → scope.names.lookup z.1 = some .local) (isx : scope.names.lookup x = some .local) (src : wpAny (model prog w) A (eval iter env) (fun v s₁ => wpAny (model prog w) A (pyIter v) (CompS prog w A env scope cl x ifs elt p F Q) E s₁) E s)
    (plain : ∀ v, foldedSetIterable iter env v = pure v := by intro _; rfl) : wpAny (model prog w) A (eval (.ListComp elt [⟨.Name x px, iter, ifs, 0⟩] scope pos) env) Q E s := by
  refine compEval free isf locs (wpAny_mono src (fun v s₁ it => wpAny_mono it (fun i s₂ ask => ?_) fun _ _ q => q) fun _ _ q => q) plain
  obtain ⟨I, fp, wr, G, n, P, St, rfl, W, small, st, low, quiet, fin⟩ := ask
  refine compSrc W small nocell isf isx st low quiet fun D C s' m ys vs hD DC ns acc all told made mv => post_value ns fun h' same => ?_
  have hC : s₂.heap.objs.size ≤ C := Nat.le_trans hD (Nat.le_of_lt DC)
  exact fin D { s' with heap := h' } ys vs hD (Heap.get?_none_of_le hD) (acc.at fun o e => same.extBut _ o (Nat.ne_of_lt DC) e) all told made (fun b o hb e => same.extBut b o (over e hC) (mv.heap b o hb e)) mv.gens mv.drawn mv.os
/-- The same, stored under a name at once. -/
theorem assignComp_S {elt iter : Expr} {x y : Str} {px py : Pos} {ifs : List Expr} {scope : Scope} {cl : List (Str × Addr)} {pos at_ : Pos} {Q : Flow → Shared → Prop} (p : Value → Bool) (F : Value → Value → Prop) (swap : swapsWith (.ListComp elt [⟨.Name x px, iter, ifs, 0⟩] scope pos) (some (.Name y py)) at_.line env = pure true)
    (free : closureFor scope env = pure cl) (nocell : ∀ z ∈ scope.names, z.2 ≠ .cell) (isf : scope.kind = .function) (locs : ∀ z ∈ scope.names, z.2 = .local → scope.names.lookup z.1 = some .local) (isx : scope.names.lookup x = some .local)
    (isy : env.kindOf y = some .local) (inf : (env.scope.kind == .class || (env.scope.kind == .module && env.locals != env.globals)) = false)
    (src : wpAny (model prog w) A (eval iter env) (fun v s₁ => wpAny (model prog w) A (pyIter v) (CompA prog w A env scope cl x y ifs elt p F Q) E s₁) E s)
    (plain : ∀ v, foldedSetIterable iter env v = pure v := by intro _; rfl) : wpAny (model prog w) A (exec (.Assign [.Name y py] (.ListComp elt [⟨.Name x px, iter, ifs, 0⟩] scope pos) at_) env) Q E s := by
  refine compStore swap free isf locs (wpAny_mono src (fun v s₁ it => wpAny_mono it (fun i s₂ ask => ?_) fun _ _ q => q) fun _ _ q => q) plain
  obtain ⟨I, fp, wr, G, n, P, St, mL, rfl, W, small, st, low, out, nsL, quiet, fin⟩ := ask
  have lowL : (env.locals : Nat) < s₂.heap.objs.size := nsL.lt
  refine compSrc W small nocell isf isx st low quiet fun D C s' m ys vs hD DC ns acc all told made mv => ?_
  have hC : s₂.heap.objs.size ≤ C := Nat.le_trans hD (Nat.le_of_lt DC)
  have LC : env.locals ≠ C := Nat.ne_of_lt (Nat.lt_of_lt_of_le lowL hC)
  have DL : D ≠ env.locals := Nat.ne_of_gt (Nat.lt_of_lt_of_le lowL hD)
  refine post_store ns (nsL.at' fun o e => mv.heap _ o out e) LC isy inf fun h₁ h₂ same₁ same₂ nsL₂ => ?_
  exact fin D { s' with heap := h₂, toks := s'.toks + 1 } ys vs hD (Heap.get?_none_of_le hD) ((acc.at fun o e => same₁.extBut _ o DL e).at fun o e => same₂.extBut _ o (Nat.ne_of_lt DC) e) all told made nsL₂
    (fun b o hb hw e => same₂.extBut b o (over e hC) (same₁.extBut b o hb (mv.heap b o hw e))) mv.gens mv.drawn mv.os
end

section
variable {prog : Program} {w : World} {A : Around} {s : Shared} {env : Env}
/-- What a for loop asks behind its iterator: a word J that holds ahead of each turn. -/
def ForJ (prog : Program) (w : World) (A : Around) (env : Env) (x : Str) (px : Pos) (body : List Stmt) (Q : Flow → Shared → Prop) (it : Value) (s₂ : Shared) : Prop :=
  ∃ I fp wr n P St, ∃ J : Nat → Shared → Prop, it = .ref I ∧ Walks prog w A I fp wr n P St ∧ J 0 s₂ ∧ (∀ i s, J i s → St i s.heap) ∧
    (∀ i (s : Shared) v h' tk, i < n → J i s → P i v → St (i + 1) h' → (∀ b o, b ∉ wr → s.heap.get? b = some o → h'.get? b = some o) →
      wpAny (model prog w) A (assign (.Name x px) env v) (fun _ s₂ => wpAny (model prog w) A (execs body env) (fun f s₃ => (f = .next ∨ f = .cont) ∧ J (i + 1) s₃) (fun _ _ => False) s₂) (fun _ _ => False) { s with heap := h', toks := tk }) ∧
    (∀ (s : Shared) h' tk, J n s → (∀ b o, b ∉ wr → s.heap.get? b = some o → h'.get? b = some o) → Q .next { s with heap := h', toks := tk })
theorem For_J {x : Str} {px pos : Pos} {iter : Expr} {body : List Stmt} {Q : Flow → Shared → Prop}
    (h : wpAny (model prog w) A (eval iter env) (fun xv s₁ => wpAny (model prog w) A (pyIter xv) (fun it s₂ => ForJ prog w A env x px body Q it s₂) (fun _ _ => False) s₁) (fun _ _ => False) s)
    (hs : ∀ x, foldedSetIterable iter env x = pure x := by intro _; rfl) :
    wpAny (model prog w) A (exec (.For (.Name x px) iter body [] pos) env) Q (fun _ _ => False) s := by
  refine wpAny_For (wpAny_mono h (fun xv s₁ h₁ => wpAny_mono h₁ (fun it s₂ h₂ => ?_) fun _ _ e => e.elim) fun _ _ e => e.elim) hs
  obtain ⟨I, fp, wr, n, P, St, J, rfl, W, h0, hst, turn, done⟩ := h₂
  refine codeAny_forLoop (fun k s' => ∃ i, i ≤ n ∧ k = n + 1 - i ∧ J i s') ?_ (n + 1) ⟨0, Nat.zero_le _, rfl, h0⟩
  rintro k s' ⟨i, hi, rfl, hJ⟩
  by_cases hlt : i < n
  · refine W.item i _ _ _ hlt (hst i s' hJ) fun v h' tk hP hst' hk => ?_
    refine wpAny_mono (turn i s' v h' tk hlt hJ hP hst' hk) (fun _ s₂ h₂ => wpAny_mono h₂ (fun f s₃ h₃ => ?_) fun _ _ e => e.elim) fun _ _ e => e.elim
    obtain ⟨hf, hJ'⟩ := h₃
    rcases hf with rfl | rfl
    · exact ⟨n + 1 - (i + 1), by omega, i + 1, hlt, rfl, hJ'⟩
    · exact ⟨n + 1 - (i + 1), by omega, i + 1, hlt, rfl, hJ'⟩
  · obtain rfl : i = n := by omega
    refine W.done _ _ _ (hst i s' hJ) fun h' tk hk => ?_
    exact wpAny_execs_nil (done s' h' tk hJ hk)
end

/-- the range's iterator ahead of turn i -/
def rIter (n : Nat) (i : Nat) : Obj := { cls := .type "range_iterator", data := .fields #[rawInt (0 + (i : Int) * 1), rawInt ((n : Int) - (i : Int)), rawInt 1] }
section
variable {prog : Program} {w : World} {A : Around} {s : Shared} {env : Env}
theorem forRange {n : Nat} {r : Addr} {t u v : Tok} {x : Str} {px : Pos} {body : List Stmt} {Q : Flow → Shared → Prop} (J : Addr → Nat → Shared → Prop) (hh : A.handled = none) (hR : IsRange s.heap r 0 (n : Int) 1 t u v) (hsm : Builtin.Range.small 0 (n : Int) 1 = true) (hsz : Builtin.Range.rangeSize 0 (n : Int) 1 = (n : Int))
    (h0 : J s.heap.objs.size 0 { s with heap := s.heap.push (rIter n 0) }) (hJ : ∀ I i s', J I i s' → s'.heap.get? I = some (rIter n i))
    (turn : ∀ I i (s' : Shared) t' h' tk, i < n → J I i s' → h'.get? I = some (rIter n (i + 1)) → (∀ b o, b ≠ I → s'.heap.get? b = some o → h'.get? b = some o) →
      wpAny (model prog w) A (assign (.Name x px) env (.int (i : Int) t')) (fun _ s₂ => wpAny (model prog w) A (execs body env) (fun f s₃ => (f = .next ∨ f = .cont) ∧ J I (i + 1) s₃) (fun _ _ => False) s₂) (fun _ _ => False) { s' with heap := h', toks := tk })
    (done : ∀ I (s' : Shared) h' tk, J I n s' → (∀ b o, b ≠ I → s'.heap.get? b = some o → h'.get? b = some o) → Q .next { s' with heap := h', toks := tk }) :
    wpAny (model prog w) A (pyIter (.ref r)) (fun it s₂ => ForJ prog w A env x px body Q it s₂) (fun _ _ => False) s := by
  refine wpAny_pyIter_range hR hsm ?_
  refine ⟨_, _, _, n, _, _, J s.heap.objs.size, rfl, LCg.range_walks hh 0 n, ?_, fun i s' hj => hJ _ i s' hj, ?_, ?_⟩
  · rw [hsz]
    have e : rIter n 0 = { cls := .type "range_iterator", data := .fields #[rawInt 0, rawInt (n : Int), rawInt 1] } := by
      unfold rIter
      simp
    rw [← e]
    exact h0
  · rintro i s' v h' tk hi hj ⟨t', rfl⟩ hst hk
    rw [Int.zero_add]
    exact turn _ i s' t' h' tk hi hj hst fun b o hb e => hk b o (by simpa using hb) e
  · exact fun s' h' tk hj hk => done _ s' h' tk hj fun b o hb e => hk b o (by simpa using hb) e
end

theorem moveI {h₀ h h' : Heap} {L I : Addr} {m : Str → Option Value} {o o' : Obj} {news : List (Addr × Obj)} (F : Fr h₀ L h m) (N : News h₀ L h ((I, o) :: news)) (hne : ∀ p ∈ news, p.1 ≠ I) (hI : h'.get? I = some o')
    (hk : ∀ b o, b ≠ I → h.get? b = some o → h'.get? b = some o) : Fr h₀ L h' m ∧ News h₀ L h' ((I, o') :: news) := by
  have z := N _ (List.Mem.head _)
  refine ⟨⟨F.ns.at' fun o e => hk L o (Ne.symm z.2.1) e, fun b o e => hk b o (fun q => ?_) (F.keep b o e), F.above⟩, fun p hp => ?_⟩
  · rw [q, z.2.2] at e; cases e
  · rcases List.mem_cons.mp hp with rfl | hp
    · exact ⟨hI, z.2⟩
    · have y := N p (List.mem_cons_of_mem _ hp)
      exact ⟨hk _ _ (hne p hp) y.1, y.2⟩
theorem compFr {hb h₂ h₃ : Heap} {C Lg L : Addr} {m₃ m' : Str → Option Value} {news : List (Addr × Obj)} (F : Fr hb L h₂ m') (N : News hb L h₂ news) (hC : h₂.objs.size ≤ C) (hn : h₃.Ns C m₃)
    (hk : ∀ b o, b ∉ [Lg] → h₂.get? b = some o → h₃.get? b = some o) (hLg : ∀ p ∈ news, p.1 ≠ Lg) (hL : hb.get? Lg = none) : Fr hb C h₃ m₃ ∧ News hb C h₃ news := by
  refine ⟨⟨hn, fun b o e => hk b o (fun q => ?_) (F.keep b o e), Nat.le_trans F.above (Nat.le_trans (Nat.le_of_lt F.ns.lt) hC)⟩, fun p hp => ⟨hk _ _ (fun q => hLg p hp (List.mem_singleton.mp q)) (N p hp).1, ?_, (N p hp).2.2⟩⟩
  · rw [List.mem_singleton.mp q, hL] at e; cases e
  · exact Nat.ne_of_lt (Nat.lt_of_lt_of_le (Heap.lt_size (N p hp).1) hC)
/-- an item of a list at a place that is known -/
theorem itemAt {prog : Program} {w : World} {A : Around} {E : Value → Shared → Prop} {s : Shared} {value slice : PySem.Expr} {l : Addr} {vs : List Value} {k : Nat} {u : Tok} {v : Value} {Q : Value → Shared → Prop}
    (hl : s.heap.IsList l vs.toArray) (hx : vs[k]? = some v) (hhi : (k : Int) < 2 ^ 63) (h : Q v s)
    (hs : subscripted slice false (.ref l) (.int (k : Int) u) = operate [.ref l, .int (k : Int) u] (getItem (.ref l) (.int (k : Int) u)) := by with_unfolding_all rfl) :
    wpAny (model prog w) A (subscriptTail value slice (.ref l) (.int (k : Int) u)) Q E s :=
  tail_any hl.typeIs slot_list_getitem.lookup (wpAny_getItem_list hl (Int.natCast_nonneg _) hhi (by simpa using hx) h) hs
theorem pairedEq : ∀ {a b : List Value}, Paired (fun v y => y = v) a b → b = a
  | _, _, .nil => rfl
  | _, _, .cons h r => by rw [h, pairedEq r]
theorem strsOf {vs : List Value} {l : List Str} (len : vs.length = l.length) (at_ : ∀ (j : Nat) (v : Value), vs[j]? = some v → ∃ x t, l[j]? = some x ∧ v = .str x t) : StrsAre vs l :=
  kdy_strs len fun j v e => let ⟨x, t, h1, h2⟩ := at_ j v e; ⟨x, h1, t, h2⟩
theorem strsFilter (p : Value → Bool) (f : Str → Bool) (hp : ∀ x t, p (.str x t) = f x) : ∀ {vs : List Value} {l : List Str}, StrsAre vs l → StrsAre (vs.filter p) (l.filter f)
  | _, _, .nil => .nil
  | _, _, .cons y t r => by
    rw [List.filter_cons, List.filter_cons, hp]
    split
    · exact .cons y t (strsFilter p f hp r)
    · exact strsFilter p f hp r
/-- a halt for the walk: the goal is handed out as it stands -/
def Halt (P : Prop) : Prop := P
theorem Halt.of {P : Prop} (h : Halt P) : P := h
theorem Halt.go {P : Prop} (h : P) : Halt P := h
theorem strsGet {us : List Value} {ws : List Str} (h : StrsAre us ws) {i : Nat} {w : Str} (e : ws[i]? = some w) : ∃ t, us[i]? = some (.str w t) := h.at e

section
variable {M : Model} {A : Around} {E : Value → Shared → Prop} {s : Shared} {h₀ : Heap} {C : Addr} {m : Str → Option Value} {scope : Scope} {cl : List (Str × Addr)} {env : Env} {x : Str} {pos : Pos} {v : Value} {Q : Value → Shared → Prop}
/-- A comprehension's own name, its frame told by Fr. -/
theorem compLocal (F : Fr h₀ C s.heap m) (hv : m x = some v) (h : Q v s) (hk : (compEnvC scope cl C env).scope.kind = .function) (hx : (compEnvC scope cl C env).kindOf x = some .local) (hb : (x == ("__debug__" : Str)) = false := by decide) :
    wpAny M A (eval (.Name x pos) (compEnvC scope cl C env)) Q E s := wpAny_Name (wpAny_loadName_local hk hx F.ns hv h) hb
end
end Mine
-- part KF
local macro_rules | `(tactic| walk_at "mine name") => `(tactic| (k_here; (with_reducible show wpAny _ _ (eval (Expr.Name _ _) (compEnvC _ _ _ _)) _ _ _); k_dflt (refine' Mine.compLocal ?F ?v ?_ ?a ?b; (case a => rfl); (case b => rfl); (case F => k_asm); (case v => exact rfl); k_whole)))
local macro_rules | `(tactic| walk_at "mine append") => `(tactic| (k_here; (with_reducible show wpAny _ _ (call (Value.builtin _) [Value.ref _, _]) _ _ _); k_dflt (refine' append_K ?k1 ?k2 ?k3 ?_ ?z; (case k1 => k_asm); (case k2 => k_asm); (case k3 => k_upd); (case z => (simp only [sizeLine_eq, List.size_toArray]; omega)); k_whole); intro h' F' N'; (try rw [List.push_toArray] at N'); (try k_sweep)))
local macro_rules | `(tactic| walk_at "mine add") => `(tactic| (k_here; (with_reducible show wpAny _ _ (binaryOp _ (Value.ref _) (Value.ref _)) _ _ _); k_dflt (refine' kmk_add_lit ?F ?N ?a ?b ?e ?_ ?z; (case F => k_asm); (case N => k_asm); (case a => kmk_list); (case b => kmk_list); (case e => exact rfl); (case z => (simp only [sizeLine_eq, List.length_cons, List.length_nil, List.toList_toArray]; omega))); intro D' h' F' N' l1; (try dsimp only [List.toList_toArray, List.cons_append, List.nil_append] at N'); (try k_lt l1); (try k_sweep)))
namespace Mine
theorem partKF {M : Model} {A : Around} {v : Value} {Q : Value → Shared → Prop} {E : Value → Shared → Prop} {s : Shared} (h : Q v s) : wpAny M A (pure v : Sem Value) Q E s := by
  w_top off
  first | (walk1; exact h) | exact wpAny_pure h
end Mine
open PySem PySem.W PyProof.Rows PySem.Calls
set_option maxRecDepth 100000
set_option maxHeartbeats 8000000
namespace Mine
section
variable {prog : Program} {w : World} {A : Around} {s : Shared} {K : Frag}
/-- As callB, for a def whose body's comprehensions close over names of its own (cells). -/
theorem callBC {R : Result → Shared → Prop} {name : Str} {params : Arguments} {body : List Stmt} {scope : Scope} {doc pm cdv oc : Value} {od : Option Addr} {osl : Array (Option Value)} {f : Addr} {args : List Value} {binds : List (Str × Value)}
    (X : K.In s.heap) (free : s.heap.NoLimit) (room : A.depth < recursionLimit) (at_ : K.lookup f = some ⟨oc, od, .func (docDef name params body scope pm cdv doc), osl⟩) (code : codeIn K cdv name = true)
    (bind : bindArgs (docDef name params body scope pm cdv doc) ⟨args, []⟩ = pure binds) (kinds : (binds.all fun y => scope.names.lookup y.1 == some .local || scope.names.lookup y.1 == some .cell) = true) (once : ((cellsFrom 0 scope.names []).map (·.1)).Nodup)
    (h : ∀ h₁ tk cells, Fr s.heap s.heap.objs.size h₁ (bindL (envOfC name scope s.heap.objs.size f cdv).kindOf binds fun _ => none) → News s.heap s.heap.objs.size h₁ cells → CellsAre (bindC (envOfC name scope s.heap.objs.size f cdv).kindOf binds fun _ => none) (cellsFrom (s.heap.objs.size + 1) scope.names []) cells →
      wpAny (model prog w) (A.deeper (envOfC name scope s.heap.objs.size f cdv)) (execs body (envOfC name scope s.heap.objs.size f cdv)) (fun fl s' => R (.ok (.ret (match fl with | .ret v => v | _ => .none))) s') (fun _ _ => False) { s with heap := h₁, toks := tk })
    (plain : scope.isCoroutine = false) (nogen : scope.isGenerator = false) (isf : scope.kind = .function) : codeAny (model prog w) A (.call (.ref f) ⟨args, []⟩) R s :=
  call_cellsN_ret room (X _ _ at_) rfl free (codeRec_of X code) bind (kindsX kinds _) once h plain nogen isf
end

/-- One turn of the forward way: cut back to the first ancestor with the place's name at its end, else the name put behind. -/
def fwdEnds (w : Str) (v : Value) : Bool := match v with
  | .str one _ => Txt.endswith one (Str.ofString "/" ++ w)
  | _ => false
def fwdStep (k : Nat) (p w : Str) (l : List Str) : Str := ((l.filter fun one => Txt.endswith one (Str.ofString "/" ++ w)) ++ [p ++ Txt.mul (Str.ofString "/") (1 + Int.fmod (k : Int) 2) ++ w]).headD p
inductive Fwd : Nat → Str → List Str → Str → Prop
  | nil {k : Nat} {p : Str} : p.length ≤ 900 → Fwd k p [] p
  | cons {k : Nat} {p w q : Str} {ws l : List Str} : p.length ≤ 900 → l.length ≤ 100 → Anc (Txt.rstripChars p (Str.ofString "/")) l → Fwd (k + 1) (fwdStep k p w l) ws q → Fwd k p (w :: ws) q

def fwdName (q one : Str) : Str := if Txt.startswith q one then ((Txt.split one (Str.ofString "/")).getLast?).getD (Str.ofString "") else Str.ofString ""
def fwdOut (q : Str) (l : List Str) : List Str := (l.map (fwdName q)).reverse
def fwdVal (q : Str) (v y : Value) : Prop := ∃ one t u, v = .str one t ∧ y = .str (fwdName q one) u
def FwdEnd (q : Str) (l' : List Str) : Prop := Anc (Txt.rstripChars (q ++ Str.ofString "//") (Str.ofString "/")) l' ∧ l'.length ≤ 100 ∧ ∀ one ∈ l', one.length ≤ 1000 ∧ ∃ z, (Txt.split one (Str.ofString "/")).getLast? = some z
/-- what holds ahead of a turn of the forward way -/
def FwdJ (hb : Heap) (s₀ : Shared) (row : Addr) (ws : List Str) (q : Str) (I : Addr) (i : Nat) (s' : Shared) : Prop :=
  ∃ (m' : Str → Option Value) (oR oP oK : Obj) (tP : Tok) (p : Str) (xK : Option Value), Fr hb hb.objs.size s'.heap m' ∧
    News hb hb.objs.size s'.heap [(I, rIter 5 i), (hb.objs.size + 1 + 1 + 1, oK), (hb.objs.size + 1 + 1, oP), (hb.objs.size + 1, oR)] ∧
    oR.data = .cell (some (.ref row)) ∧ oP.data = .cell (some (.str p tP)) ∧ oK.data = .cell xK ∧ Fwd i p (ws.drop i) q ∧ AllBare s'.gens ∧ s'.drawn = s₀.drawn ∧ s'.os = s₀.os ∧ hb.objs.size + 1 + 1 + 1 < I
theorem moveOff {h₀ h h' : Heap} {L I : Addr} {m : Str → Option Value} {o : Obj} {news : List (Addr × Obj)} (F : Fr h₀ L h m) (N : News h₀ L h ((I, o) :: news)) (hne : ∀ p ∈ news, p.1 ≠ I)
    (hk : ∀ b o, b ≠ I → h.get? b = some o → h'.get? b = some o) : Fr h₀ L h' m ∧ News h₀ L h' news := by
  have z := N _ (List.Mem.head _)
  refine ⟨⟨F.ns.at' fun o e => hk L o (Ne.symm z.2.1) e, fun b o e => hk b o (fun q => ?_) (F.keep b o e), F.above⟩, fun p hp => ?_⟩
  · rw [q, z.2.2] at e; cases e
  · have y := N p (List.mem_cons_of_mem _ hp)
    exact ⟨hk _ _ (hne p hp) y.1, y.2⟩
section
open PySem.Spec PySem.Builtin PySem.Builtin.Str
variable {prog : Program} {w : World} {A : Around} {E : Value → Shared → Prop} {s : Shared}
/-- str.split by a text: one new list stands, and all that stood stands still. -/
theorem splitKeep {h₀ : Heap} {L : Addr} {m : Str → Option Value} {news : List (Addr × Obj)} {x y : Str} {t u : Tok} {Q : Value → Shared → Prop} (hF : Fr h₀ L s.heap m) (hN : News h₀ L s.heap news) (hy : (y.length == 0) = false)
    (h : ∀ D l h' k, StrsAre (strValues l) (Txt.split x y) → Keep s.heap h' → Fr h₀ L h' m → News h₀ L h' ((D, { cls := .type "list", data := .seq (strValues l).toArray }) :: news) → (∀ p ∈ news, p.1 < D) → Q (.ref D) { s with heap := h', toks := k })
    (hsz : x.length + 2 ≤ sizeLine) : wpAny (model prog w) A (call (.builtin "str.split") [.str x t, .str y u]) Q E s := by
  have new : ∀ (k : Nat) (l : List (Str × Tok)), Txt.split x y = l.map (·.1) → Q (.ref s.heap.objs.size) { s with heap := s.heap.push { cls := .type "list", data := .seq (strValues l).toArray }, toks := k } := fun k l e => by
    have texts := strsAre_of_values l
    rw [← e] at texts
    exact h _ l _ k texts (fun _ _ q => Heap.get?_push_of_some _ q) (hF.pushS _) (hN.push hF _) fun p hp => Heap.lt_size (hN p hp).1
  have go {S : PySem.Spec} (mt : Meets (Builtin.«str.split» ⟨[.str x t, .str y u], []⟩) S) (q : S A (wants Q E) s) := call_meets (prog := prog) (w := w) F.slot_str_split (typeIs_str _ _ _) F.entry_str_split (F.args_str_split_2 _ _) mt q
  by_cases short : (decide (x.length < y.length) || decide (strKind x < strKind y)) = true
  · exact go (meets_str_split_cannot_occur x y t u short) (new _ [(x, t)] (if_pos short))
  have long := Bool.eq_false_iff.mpr short
  by_cases none : (occurrences x y 0 x.length (x.length + 1)).isEmpty = true
  · exact go (meets_str_split_not_found x y t u long hy none) (new _ [(x, t)] ((if_neg short).trans (if_pos none)))
  have parts : (partsBetween x (occurrences x y 0 x.length (x.length + 1)) y.length).length ≤ sizeLine := by
    have := StrLaws.occ_length_le x y 0 x.length (x.length + 1)
    rw [length_partsBetween]
    omega
  have told : Txt.split x y = (numbered s.toks (partsBetween x (occurrences x y 0 x.length (x.length + 1)) y.length)).map (·.1) := by
    rw [numbered_texts]
    exact (if_neg short).trans (if_neg none)
  have q := new (s.toks + (partsBetween x (occurrences x y 0 x.length (x.length + 1)) y.length).length) _ told
  rw [← strsFrom_eq] at q
  exact go (meets_str_split_sep x y t u long hy (Bool.eq_false_iff.mpr none) (by omega) parts) q
/-- the last item of a list -/
theorem itemLast {value slice : PySem.Expr} {l : Addr} {vs : List Value} {u : Tok} {v : Value} {Q : Value → Shared → Prop}
    (hl : s.heap.IsList l vs.toArray) (hx : vs.getLast? = some v) (h : Q v s)
    (hs : subscripted slice false (.ref l) (.int (-1) u) = operate [.ref l, .int (-1) u] (getItem (.ref l) (.int (-1) u)) := by with_unfolding_all rfl) :
    wpAny (model prog w) A (subscriptTail value slice (.ref l) (.int (-1) u)) Q E s := by
  have hpos : 0 < vs.length := by
    cases vs with
    | nil => cases hx
    | cons a b => simp
  refine tail_any hl.typeIs slot_list_getitem.lookup (wpAny_getItem_list_neg hl (by decide) (by simp only [List.size_toArray]; omega) (by decide) ?_ h) hs
  rw [List.getLast?_eq_getElem?] at hx
  simp only [List.size_toArray, List.getElem?_toArray]
  rw [← hx]
  congr 1
  omega
end
theorem ne3 {a I : Nat} {x y z : Obj} (h : a + 1 + 1 + 1 < I) : ∀ p ∈ ([(a + 1 + 1 + 1, x), (a + 1 + 1, y), (a + 1, z)] : List (Addr × Obj)), p.1 ≠ I := by
  intro p hp
  simp only [List.mem_cons, List.not_mem_nil, or_false] at hp
  rcases hp with rfl | rfl | rfl <;> (apply Nat.ne_of_lt; dsimp only; omega)
theorem newsBelow {hb h : Heap} {L Lg : Addr} {news : List (Addr × Obj)} (N : News hb L h news) (hLg : h.objs.size ≤ Lg) : ∀ p ∈ news, p.1 ≠ Lg := fun p hp => Nat.ne_of_lt (Nat.lt_of_lt_of_le (Heap.lt_size (N p hp).1) hLg)
local macro_rules | `(tactic| walk_at "eval Name") => `(tactic| (walk_at "mine name"))
local macro_rules | `(tactic| walk_at "subscriptTail Name Name ref int") => `(tactic| (k_here; (with_reducible show wpAny _ _ (subscriptTail _ _ (Value.ref _) (Value.int _ _)) _ _ _); (with_reducible rename Fr _ _ _ _ => kF); k_dflt (refine' itemAt ?k1 ?k2 ?k3 ?_ ?k6; (case k1 => exact stays_list kF.keep (by assumption)); (case k2 => assumption); (case k3 => omega); (case k6 => with_unfolding_all rfl); k_whole)))
theorem splitLast {us : List Value} {x y z : Str} (h : StrsAre us (Txt.split x y)) (e : (Txt.split x y).getLast? = some z) : ∃ t, us.getLast? = some (.str z t) := by
  rw [List.getLast?_eq_getElem?] at e
  obtain ⟨t, ht⟩ := strsGet h e
  refine ⟨t, ?_⟩
  rw [List.getLast?_eq_getElem?, h.length]
  exact ht
local macro_rules | `(tactic| walk_at "call builtin:str.split") => `(tactic| ((with_reducible show wpAny _ _ (call (Value.builtin "str.split") [Value.str _ _, Value.str _ _]) _ _ _); k_dflt (refine' splitKeep ?F ?N ?y ?_ ?z; (case F => k_asm); (case N => k_asm); (case y => decide); (case z => (rw [sizeLine_eq]; omega))); intro D' l' h' k' a' K' F' N' l1; (try k_lt l1); (try k_sweep)))
local macro_rules | `(tactic| walk_at "subscriptTail Call Attribute cons nil UnaryOp ref int") => `(tactic| (k_here; (with_reducible show wpAny _ _ (subscriptTail _ _ (Value.ref _) (Value.int (-1) _)) _ _ _); (obtain ⟨tz, hz⟩ := splitLast (by assumption) (by assumption)); k_dflt (refine' itemLast ?k1 ?k2 ?_ ?k6; (case k1 => exact News.isList (by k_asm) (by k_mem)); (case k2 => exact hz); (case k6 => with_unfolding_all rfl); k_whole)))
theorem strsMap {q : Str} : ∀ {vs ys : List Value} {l : List Str}, StrsAre vs l → Paired (fwdVal q) vs ys → StrsAre ys (l.map (fwdName q))
  | _, _, _, .nil, .nil => .nil
  | _, _, _, .cons y t r, .cons h p => by
    obtain ⟨one, t₁, u, e, rfl⟩ := h
    cases e
    exact .cons _ u (strsMap r p)
theorem strsRev : ∀ {us : List Value} {ws : List Str}, StrsAre us ws → StrsAre us.reverse ws.reverse
  | _, _, .nil => .nil
  | _, _, .cons y t r => by
    rw [List.reverse_cons, List.reverse_cons]
    exact (strsRev r).append' (.cons y t .nil)
theorem frMoved {h₀ h h' : Heap} {L Lg : Addr} {m : Str → Option Value} (F : Fr h₀ L h m) (hk : ∀ b o, b ∉ [Lg] → h.get? b = some o → h'.get? b = some o) (hLg : h₀.get? Lg = none) (hL : L ≠ Lg) : Fr h₀ L h' m :=
  ⟨F.ns.at' fun o e => hk L o (fun q => hL (List.mem_singleton.mp q)) e, fun b o e => hk b o (fun q => by rw [List.mem_singleton.mp q, hLg] at e; cases e) (F.keep b o e), F.above⟩
local macro_rules | `(tactic| walk_at "eval ListComp") => `(tactic| (k_here; refine Halt.of ?_))
local macro_rules | `(tactic| walk_at "exec Assign cons ListComp") => `(tactic| (k_here; refine Halt.of ?_))
local macro_rules | `(tactic| walk_at "binaryOp Add ref ref") => `(tactic| (walk_at "mine add"))
section
variable {w : World} {dp un : Nat} {fr : Option (List Env)} {gd : Option (List Code)} {s : Shared} {mean : ExcName → Option Value} {mg mb : Str → Option Value}
theorem c_forward {R : Result → Shared → Prop} {row : Addr} {us : List Value} {ws : List Str} {q : Str} {l' : List Str} (X : (hd.heap_39 w.params).In s.heap) (T : Top hd.view_39 (looseW hd.view_39 []) mean mg mb s.heap) (hroom : dp + 200 < recursionLimit) (hu : un + 2000 < cLine)
    (hrow : s.heap.IsList row us.toArray) (hus : StrsAre us ws) (hlen : ws.length = 5) (hws : ∀ w ∈ ws, w.length ≤ 10) (hbare : AllBare s.gens) (hf : Fwd 0 (Str.ofString "") ws q) (hend : FwdEnd q l')
    (h : ∀ a s' us', Keep s.heap s'.heap → s.heap.get? a = none → s'.heap.PlainList a us'.toArray → StrsAre us' (fwdOut q l') → AllBare s'.gens → s'.os = s.os → R (.ok (.ret (.ref a))) s') :
    codeAny (model PySem.Challenge.rw_kl0414_01.row.prog w) (Around.mk none dp fr gd un) (.call (.ref 76) ⟨[.ref row], []⟩) R s := by
  revert X; k_fill; intro X
  refine' callBC (binds := [(Str.ofString "row", .ref row)]) ?k1 ?k2 ?k3 ?k6 ?k7 ?k9 ?kB ?kD ?_ ?c2 ?c3 ?c4
  case k1 => exact X
  case k2 => exact T.nolimit
  case k3 => (try dsimp only); omega
  case k6 => k_is
  case k7 => k_is
  case k9 => exact rfl
  case kB => exact rfl
  case kD => decide +kernel
  case c2 => exact rfl
  case c3 => exact rfl
  case c4 => exact rfl
  intro h₁ tk cells F N Y
  k_cells Y
  try dsimp only
  k_steps
  refine' For_J ?_
  k_steps
  with_reducible rename IsRange _ _ _ _ _ _ _ _ => hR
  with_reducible rename News _ _ _ _ => kN
  with_reducible rename Fr _ _ _ _ => kF
  rw [hlen] at hR
  refine forRange (n := 5) (FwdJ s.heap s row ws q) rfl hR rfl rfl ?_ ?_ ?_ ?_
  · exact ⟨_, _, _, _, _, _, _, kF.push _, News.push kF kN _ rfl, ‹_›, ‹_›, ‹_›, hf, hbare, rfl, rfl, Heap.lt_size (kN _ (List.Mem.head _)).1⟩
  · rintro I i s' ⟨m', oR, oP, oK, tP, p, xK, F', N', _⟩
    exact (N' _ (List.Mem.head _)).1
  · clear kN kF hR
    rintro I i s' t h' tk' hi ⟨m', oR, oP, oK, tP, p, xK, F', N', dR, dP, dK, hF, hB, hdr, hos, hIL⟩ hst hk
    obtain ⟨F₁, N₁⟩ := moveI F' N' (ne3 hIL) hst hk
    clear F' N'
    obtain ⟨w₁, hw₁⟩ : ∃ w₁, ws[i]? = some w₁ := ⟨ws[i], by simp [hlen, hi]⟩
    have hd : ws.drop i = w₁ :: ws.drop (i + 1) := by
      obtain ⟨hlt, e⟩ := List.getElem?_eq_some_iff.mp hw₁
      rw [List.drop_eq_getElem_cons hlt, e]
    rw [hd] at hF
    with_reducible rename StrsAre _ _ => hus
    obtain ⟨tw, hget⟩ := hus.at hw₁
    have hwl := hws w₁ (List.mem_of_getElem? hw₁)
    cases hF with
    | @cons _ _ _ _ _ l hp hll hl hF =>
    k_steps
    refine Halt.go ?_
    refine' assignComp_S (fwdEnds w₁) (fun v y => y = v) ?a1 ?a2 ?a3 ?a4 ?a5 ?a6 ?a7 ?a8 ?_
    case a1 => with_unfolding_all rfl
    case a2 => with_unfolding_all rfl
    case a3 => decide
    case a4 => rfl
    case a5 => decide
    case a6 => rfl
    case a7 => rfl
    case a8 => rfl
    k_steps
    clear hk hst
    with_reducible rename Fr _ _ _ _ => kF
    with_reducible rename News _ _ _ _ => kN
    refine' wpAny_call (c_ancestry (l := l) (Frag.In.keeps X kF.keep) (Top.keeps T kF.keep) ?r1 ?u1 ?hx hl ?_)
    case r1 => (try dsimp only [Around.deeper]); omega
    case u1 => (try dsimp only [Around.deeper]); omega
    case hx => omega
    intro a g Lg s₅ hanc hK hLg hLa ha hgs hg hdr' hos'
    dsimp only
    have F₅ := kF.kept hK
    have N₅ := kN.grown hK
    have hlim := T.nolimit.keeps kF.keep
    have hne := newsBelow kN hLg
    have hLlt := kF.ns.lt
    have hILg := Heap.lt_size (kN _ (List.Mem.head _)).1
    refine wpAny_pyIter_gen hanc.1 ?_
    unfold CompA
    refine ⟨a, _, _, _, _, _, _, m', rfl, anc_walks rfl ?_ hlim (Nat.ne_of_gt hLa) hLg, ?_, hanc, ?_, ?_, F₅.ns, ⟨?_, ?_⟩, ?_⟩
    · dsimp only [Around.deeper]; omega
    · rw [sizeLine_eq]; omega
    · intro b hb
      simp only [List.mem_cons, List.mem_range] at hb
      rcases hb with rfl | rfl | hb
      · exact ha
      · exact Nat.lt_trans hLa ha
      · exact Nat.lt_trans (Nat.lt_of_lt_of_le hb hLg) (Nat.lt_trans hLa ha)
    · intro hm
      have e : s.heap.objs.size = Lg := List.mem_singleton.mp hm
      exact absurd (Nat.lt_of_lt_of_le hLlt hLg) (by rw [e]; exact Nat.lt_irrefl _)
    · rintro C j v s₆ m₆ E' hC ⟨one, t₁, hone, rfl⟩ hn₆ hm₆ hk₆ _
      obtain ⟨FC, NC⟩ := compFr F₅ N₅ hC hn₆ hk₆ hne (Heap.get?_none_of_le (Nat.le_trans (Nat.le_trans kF.above (Nat.le_of_lt hLlt)) hLg))
      clear F₅ N₅ kF kN
      replace FC := Fr.known0 FC hm₆
      refine wpAny_tests_one ?_
      k_steps
      all_goals exact ⟨s₆.heap, _, rfl, fun _ _ e => e⟩
    · rintro C j v s₆ m₆ E' hC ⟨one, t₁, hone, rfl⟩ hpv hn₆ hm₆ hk₆ _
      obtain ⟨FC, NC⟩ := compFr F₅ N₅ hC hn₆ hk₆ hne (Heap.get?_none_of_le (Nat.le_trans (Nat.le_trans kF.above (Nat.le_of_lt hLlt)) hLg))
      clear F₅ N₅ kF kN
      replace FC := Fr.known0 FC hm₆
      k_steps
      all_goals exact ⟨s₆.heap, _, rfl, fun _ _ e => e⟩
    · intro D s₇ ys vs hDL hD hpl hlen' hP hPair hns hkept hG hdr7 hos7
      have hST := strsFilter (fwdEnds w₁) (fun one => Txt.endswith one (Str.ofString "/" ++ w₁)) (fun _ _ => rfl) (strsOf hlen' hP)
      rw [← pairedEq hPair] at hST
      have hLg0 := Heap.get?_none_of_le (h := s.heap) (Nat.le_trans (Nat.le_trans kF.above (Nat.le_of_lt hLlt)) hLg)
      have F₇ : Fr s.heap s.heap.objs.size s₇.heap (fun z => if z = Str.ofString "stood" then some (.ref D) else m' z) :=
        ⟨hns, fun b o e => hkept b o (Nat.ne_of_lt (Heap.lt_size e)) (fun q => by rw [List.mem_singleton.mp q, hLg0] at e; cases e) (F₅.keep b o e), Nat.le_refl _⟩
      obtain ⟨nD, hpl⟩ := hpl
      have N₆ : News s.heap s.heap.objs.size s₇.heap [(I, rIter 5 (i + 1)), (s.heap.objs.size + 1 + 1 + 1, _), (s.heap.objs.size + 1 + 1, oP), (s.heap.objs.size + 1, oR)] :=
        fun p hp => ⟨hkept p.1 p.2 (N₅ p hp).2.1 (fun q => hne p hp (List.mem_singleton.mp q)) (N₅ p hp).1, (N₅ p hp).2⟩
      have hD0 : s.heap.get? D = none := by
        cases z : s.heap.get? D with
        | none => rfl
        | some o => have := F₅.keep D o z; rw [hD] at this; cases this
      have N₇ := News.more F₇ N₆ hpl (fun es n q => by cases q) hD0
      clear N₆ N₅ F₅ kN kF hpl hns hkept hne
      have hfll : (l.filter fun one => Txt.endswith one (Str.ofString "/" ++ w₁)).length ≤ 100 := Nat.le_trans (List.length_filter_le _ _) hll
      have hD1 : I < D := Nat.lt_of_lt_of_le (Nat.lt_of_lt_of_le (Nat.lt_of_lt_of_le hILg hLg) (Nat.le_of_lt (Nat.lt_trans hLa ha))) hDL
      have hD2 : s.heap.objs.size + 1 + 1 + 1 < D := Nat.lt_trans hIL hD1
      have hD3 : s.heap.objs.size + 1 + 1 < D := Nat.lt_of_succ_lt hD2
      have hD4 : s.heap.objs.size + 1 < D := Nat.lt_of_succ_lt hD3
      have hB7 : AllBare s₇.gens := by
        obtain ⟨gs, hb, e⟩ := hgs
        refine hG.bare ?_
        rw [e]
        exact hB.push hb
      have hdr8 : s₇.drawn = s.drawn := hdr7.trans (hdr'.trans hdr)
      have hos8 : s₇.os = s.os := hos7.trans (hos'.trans hos)
      generalize hfl : (l.filter fun one => Txt.endswith one (Str.ofString "/" ++ w₁)) = fl at hST
      obtain ⟨ys⟩ := ys
      dsimp only at hST N₇
      rw [hfl] at hfll
      have hyl : ys.length ≤ 100 := by rw [hST.length]; exact hfll
      cases hST with
      | nil =>
        k_steps
        · exact .inl rfl
        · refine ⟨_, _, _, _, _, _, _, ‹Fr _ _ _ _›, fun p hp => ‹News _ _ _ _› p (List.mem_cons_of_mem _ (List.mem_cons_of_mem _ (List.mem_cons_of_mem _ hp))), dR, ‹Obj.data _ = .cell (some (.str _ _))›, ‹_›, ?_, hB7, hdr8, hos8, hIL⟩
          have hF' := hF
          unfold fwdStep at hF'
          rw [hfl] at hF'
          exact hF'
      | cons y t r =>
        rw [List.length_cons] at hyl
        k_steps
        · exact .inl rfl
        · refine ⟨_, _, _, _, _, _, _, ‹Fr _ _ _ _›, fun p hp => ‹News _ _ _ _› p (List.mem_cons_of_mem _ (List.mem_cons_of_mem _ (List.mem_cons_of_mem _ hp))), dR, ‹Obj.data _ = .cell (some (.str _ _))›, ‹_›, ?_, hB7, hdr8, hos8, hIL⟩
          have hF' := hF
          unfold fwdStep at hF'
          rw [hfl] at hF'
          exact hF'
  · clear kN kF hR
    rintro I s' h' tk' ⟨m', oR, oP, oK, tP, p, xK, F', N', dR, dP, dK, hF, hB, hdr, hos, hIL⟩ hk
    obtain ⟨F₁, N₁⟩ := moveOff F' N' (ne3 hIL) hk
    clear F' N' hk
    have hd : ws.drop 5 = [] := List.drop_eq_nil_of_le (by omega)
    rw [hd] at hF
    cases hF with
    | nil hp =>
    k_steps
    refine Halt.go ?_
    refine' listComp_S (fun _ => true) (fwdVal q) ?a1 ?a3 ?a4 ?a5 ?a6 ?_
    case a1 => with_unfolding_all rfl
    case a3 => decide
    case a4 => rfl
    case a5 => decide
    case a6 => rfl
    k_steps
    with_reducible rename Fr _ _ _ _ => kF
    with_reducible rename News _ _ _ _ => kN
    refine' wpAny_call (c_ancestry (l := l') (Frag.In.keeps X kF.keep) (Top.keeps T kF.keep) ?r1 ?u1 ?hx hend.1 ?_)
    case r1 => (try dsimp only [Around.deeper]); omega
    case u1 => (try dsimp only [Around.deeper]); omega
    case hx =>
      have e2 : (Str.ofString "//").length = 2 := by decide
      omega
    intro a g Lg s₅ hanc hK hLg hLa ha hgs hg hdr' hos'
    dsimp only
    have F₅ := kF.kept hK
    have N₅ := kN.grown hK
    have hlim := T.nolimit.keeps kF.keep
    have hne := newsBelow kN hLg
    have hLlt := kF.ns.lt
    refine wpAny_pyIter_gen hanc.1 ?_
    unfold CompS
    refine ⟨a, _, _, _, _, _, _, rfl, anc_walks rfl ?_ hlim (Nat.ne_of_gt hLa) hLg, ?_, hanc, ?_, ⟨?_, ?_⟩, ?_⟩
    · dsimp only [Around.deeper]; omega
    · rw [sizeLine_eq]; have := hend.2.1; omega
    · intro b hb
      simp only [List.mem_cons, List.mem_range] at hb
      rcases hb with rfl | rfl | hb
      · exact ha
      · exact Nat.lt_trans hLa ha
      · exact Nat.lt_trans (Nat.lt_of_lt_of_le hb hLg) (Nat.lt_trans hLa ha)
    · rintro C j v s₆ m₆ E' hC ⟨one, t₁, hone, rfl⟩ hn₆ hm₆ hk₆ _
      exact wpAny_tests_nil ⟨rfl, _, _, rfl, fun _ _ e => e⟩
    · rintro C j v s₆ m₆ E' hC ⟨one, t₁, hone, rfl⟩ hpv hn₆ hm₆ hk₆ _
      obtain ⟨FC, NC⟩ := compFr F₅ N₅ hC hn₆ hk₆ hne (Heap.get?_none_of_le (Nat.le_trans (Nat.le_trans kF.above (Nat.le_of_lt hLlt)) hLg))
      clear F₅ N₅ kF kN
      replace FC := Fr.known0 FC hm₆
      obtain ⟨hone1, z, hone2⟩ := hend.2.2 one (List.mem_of_getElem? hone)
      k_steps
      · exact ⟨one, t₁, _, rfl, by rw [fwdName, if_pos ‹_ = true›, hone2]; rfl⟩
      · exact ⟨_, _, rfl, ‹Keep _ _›⟩
      · exact ⟨one, t₁, _, rfl, by rw [fwdName, if_neg (by simp [*])]⟩
      · exact ⟨_, _, rfl, fun _ _ e => e⟩
    · intro D s₇ ys vs hDL hD hpl hlen' hP hPair hkept hG hdr7 hos7
      obtain ⟨ys⟩ := ys
      rw [List.filter_eq_self.mpr (fun _ _ => rfl)] at hPair
      have hST : StrsAre ys (l'.map (fwdName q)) := strsMap (strsOf hlen' hP) hPair
      have hLg0 := Heap.get?_none_of_le (h := s.heap) (Nat.le_trans (Nat.le_trans kF.above (Nat.le_of_lt hLlt)) hLg)
      have F₇ := frMoved F₅ hkept hLg0 (Nat.ne_of_lt (Nat.lt_of_lt_of_le hLlt hLg))
      obtain ⟨nD, hpl⟩ := hpl
      have N₆ : News s.heap s.heap.objs.size s₇.heap [(s.heap.objs.size + 1 + 1 + 1, oK), (s.heap.objs.size + 1 + 1, oP), (s.heap.objs.size + 1, oR)] :=
        fun p hp => ⟨hkept p.1 p.2 (fun q => hne p hp (List.mem_singleton.mp q)) (N₅ p hp).1, (N₅ p hp).2⟩
      have hD0 : s.heap.get? D = none := by
        cases z : s.heap.get? D with
        | none => rfl
        | some o => have := F₅.keep D o z; rw [hD] at this; cases this
      have N₇ := News.more F₇ N₆ hpl (fun es n q => by cases q) hD0
      have hB7 : AllBare s₇.gens := by
        obtain ⟨gs, hb, e⟩ := hgs
        refine hG.bare ?_
        rw [e]
        exact hB.push hb
      have hdr8 : s₇.drawn = s.drawn := hdr7.trans (hdr'.trans hdr)
      have hos8 : s₇.os = s.os := hos7.trans (hos'.trans hos)
      have hyl : ys.length ≤ 100 := by rw [hST.length, List.length_map]; exact hend.2.1
      clear N₆ N₅ F₅ kN kF hpl hkept hne
      k_steps
      with_reducible rename Fr _ _ _ _ => F₈
      with_reducible rename News _ _ _ _ => N₈
      have hl := (N₈ _ (.head _)).1
      rw [krv_pick] at hl
      exact h _ _ _ F₈.keep (N₈ _ (.head _)).2.2 ⟨0, hl⟩ (strsRev hST) hB7 hos8
end
end Mine
-- part KH
namespace Mine
theorem partKH {M : Model} {A : Around} {v : Value} {Q : Value → Shared → Prop} {E : Value → Shared → Prop} {s : Shared} (h : Q v s) : wpAny M A (pure v : Sem Value) Q E s := by
  w_top off
  first | (walk1; exact h) | exact wpAny_pure h
end Mine
open PySem PySem.W PyProof.Rows PySem.Calls
set_option maxRecDepth 100000
set_option maxHeartbeats 8000000
namespace Mine
section
variable {prog : Program} {w : World} {A : Around} {s : Shared} {env : Env}
theorem forStr {y : Str} {t : Tok} {x : Str} {px : Pos} {body : List Stmt} {Q : Flow → Shared → Prop} (J : Addr → Nat → Shared → Prop) (hh : A.handled = none)
    (h0 : J s.heap.objs.size 0 { s with heap := s.heap.push { cls := .type (strIterType y), data := .fields #[.str y t, .int 0 0] } }) (hJ : ∀ I i s', J I i s' → s'.heap.IsStrIter I (strIterType y) y t i)
    (turn : ∀ I i (s' : Shared) c u h' tk, y.cps[i]? = some c → J I i s' → h'.IsStrIter I (strIterType y) y t (i + 1) → (∀ b o, b ≠ I → s'.heap.get? b = some o → h'.get? b = some o) →
      wpAny (model prog w) A (assign (.Name x px) env (.str ⟨#[c]⟩ u)) (fun _ s₂ => wpAny (model prog w) A (execs body env) (fun f s₃ => (f = .next ∨ f = .cont) ∧ J I (i + 1) s₃) (fun _ _ => False) s₂) (fun _ _ => False) { s' with heap := h', toks := tk })
    (done : ∀ I (s' : Shared) h' tk, J I y.cps.size s' → (∀ b o, b ≠ I → s'.heap.get? b = some o → h'.get? b = some o) → Q .next { s' with heap := h', toks := tk }) :
    wpAny (model prog w) A (pyIter (.str y t)) (fun it s₂ => ForJ prog w A env x px body Q it s₂) (fun _ _ => False) s := by
  refine wpAny_pyIter_strU ?_
  have fin : ∀ T, strIterType y = T → Walks prog w A s.heap.objs.size [s.heap.objs.size] [s.heap.objs.size] y.cps.size (SignAt y) (fun i h => h.IsStrIter s.heap.objs.size T y t i) →
      ForJ prog w A env x px body Q (.ref s.heap.objs.size) { s with heap := s.heap.push { cls := .type (strIterType y), data := .fields #[.str y t, .int 0 0] } } := by
    rintro T rfl W
    refine ⟨_, _, _, y.cps.size, _, _, J s.heap.objs.size, rfl, W, h0, fun i s' hj => hJ _ i s' hj, ?_, ?_⟩
    · rintro i s' v h' tk hi hj ⟨c, u, hc, rfl⟩ hst hk
      exact turn _ i s' c u h' tk hc hj hst fun b o hb e => hk b o (by simpa using hb) e
    · exact fun s' h' tk hj hk => done _ s' h' tk hj fun b o hb e => hk b o (by simpa using hb) e
  cases ha : y.cps.all (· < 128)
  · exact fin _ (by simp [strIterType, ha]) (Walks.strWide hh _ y t)
  · exact fin _ (by simp [strIterType, ha]) (Walks.strAscii hh _ y t)
theorem forLst {l : Addr} {vs : List Value} {x : Str} {px : Pos} {body : List Stmt} {Q : Flow → Shared → Prop} (J : Addr → Nat → Shared → Prop) (hh : A.handled = none) (hl : s.heap.IsList l vs.toArray)
    (h0 : J s.heap.objs.size 0 { s with heap := s.heap.push { cls := .type "list_iterator", data := .fields #[.ref l, .int 0 0] } }) (hJ : ∀ I i s', J I i s' → s'.heap.IsListIter I l i ∧ s'.heap.IsList l vs.toArray)
    (turn : ∀ I i (s' : Shared) v h' tk, vs[i]? = some v → J I i s' → h'.IsListIter I l (i + 1) → (∀ b o, b ≠ I → s'.heap.get? b = some o → h'.get? b = some o) →
      wpAny (model prog w) A (assign (.Name x px) env v) (fun _ s₂ => wpAny (model prog w) A (execs body env) (fun f s₃ => (f = .next ∨ f = .cont) ∧ J I (i + 1) s₃) (fun _ _ => False) s₂) (fun _ _ => False) { s' with heap := h', toks := tk })
    (done : ∀ I (s' : Shared) h' tk, J I vs.length s' → (∀ b o, b ≠ I → s'.heap.get? b = some o → h'.get? b = some o) → Q .next { s' with heap := h', toks := tk }) :
    wpAny (model prog w) A (pyIter (.ref l)) (fun it s₂ => ForJ prog w A env x px body Q it s₂) (fun _ _ => False) s := by
  have hne : l ≠ s.heap.objs.size := by
    obtain ⟨o, ho, _⟩ := hl
    exact Nat.ne_of_lt (Heap.lt_size ho)
  refine wpAny_pyIter_list hl ?_
  refine ⟨_, _, _, vs.toArray.size, _, _, J s.heap.objs.size, rfl, Walks.list hh _ l hne vs.toArray, h0, fun i s' hj => hJ _ i s' hj, ?_, ?_⟩
  · rintro i s' v h' tk hi hj hv hst hk
    exact turn _ i s' v h' tk (by simpa using hv) hj hst.1 fun b o hb e => hk b o (by simpa using hb) e
  · exact fun s' h' tk hj hk => done _ s' h' tk (by simpa using hj) fun b o hb e => hk b o (by simpa using hb) e
theorem compFrK {hb h₂ h₃ : Heap} {C L : Addr} {m₃ m' : Str → Option Value} {news : List (Addr × Obj)} (F : Fr hb L h₂ m') (N : News hb L h₂ news) (hC : h₂.objs.size ≤ C) (hn : h₃.Ns C m₃) (hk : Keep h₂ h₃) : Fr hb C h₃ m₃ ∧ News hb C h₃ news :=
  ⟨⟨hn, fun b o e => hk b o (F.keep b o e), Nat.le_trans F.above (Nat.le_trans (Nat.le_of_lt F.ns.lt) hC)⟩, fun p hp => ⟨hk _ _ (N p hp).1, Nat.ne_of_lt (Nat.lt_of_lt_of_le (Heap.lt_size (N p hp).1) hC), (N p hp).2.2⟩⟩
/-- The source of a list comprehension is a list: what is left to show. -/
theorem compLst {l : Addr} {vs : List Value} {elt : Expr} {x : Str} {ifs : List Expr} {scope : Scope} {cl : List (Str × Addr)} {Q : Value → Shared → Prop} {E : Value → Shared → Prop} {p : Value → Bool} {F : Value → Value → Prop} (hh : A.handled = none) (hl : s.heap.IsList l vs.toArray) (hsz : vs.length ≤ sizeLine)
    (tests : ∀ C (i : Nat) v s₃ m₃ E', s.heap.objs.size ≤ C → vs[i]? = some v → s₃.heap.Ns C m₃ → m₃ x = some v → Keep s.heap s₃.heap →
      wpAny (model prog w) A (forIn ifs true fun c r => if r = true then do let ok ← isTrue c (compEnvC scope cl C env) (eval c (compEnvC scope cl C env)); pure (ForInStep.yield ok) else pure (ForInStep.yield r))
        (fun ok s₄ => ok = p v ∧ Keeps s₃ s₄) E' s₃)
    (helt : ∀ C (i : Nat) v s₃ m₃ E', s.heap.objs.size ≤ C → vs[i]? = some v → p v = true → s₃.heap.Ns C m₃ → m₃ x = some v → Keep s.heap s₃.heap →
      wpAny (model prog w) A (eval elt (compEnvC scope cl C env)) (fun y s₄ => F v y ∧ Keeps s₃ s₄) E' s₃)
    (fin : ∀ D s' ys, s.heap.objs.size ≤ D → s'.heap.PlainList D ys → Paired F (vs.filter p) ys.toList → Keep s.heap s'.heap → s'.gens = s.gens → s'.drawn = s.drawn → s'.os = s.os → Q (.ref D) s') :
    wpAny (model prog w) A (pyIter (.ref l)) (CompS prog w A env scope cl x ifs elt p F Q) E s := by
  obtain ⟨ol, hol, rl⟩ := id hl
  have hlt := Heap.lt_size hol
  have hne : l ≠ s.heap.objs.size := Nat.ne_of_lt hlt
  have up : ∀ (h' : Heap) (o' : Obj), (∀ b o, b ∉ [s.heap.objs.size] → (s.heap.push o').get? b = some o → h'.get? b = some o) → Keep s.heap h' := fun h' o' hk b o e =>
    hk b o (fun q => by have := Heap.lt_size e; rw [List.mem_singleton.mp q] at this; exact Nat.lt_irrefl _ this) (Heap.get?_push_of_some _ e)
  have sz : ∀ o' : Obj, s.heap.objs.size ≤ (s.heap.push o').objs.size := fun o' => by rw [Heap.size_push]; exact Nat.le_succ _
  refine wpAny_pyIter_list hl ?_
  refine ⟨s.heap.objs.size, [s.heap.objs.size, l], [s.heap.objs.size], _, _, _, _, rfl, (Walks.list hh _ l hne vs.toArray).toS, (by simpa using hsz), ⟨⟨_, Heap.get?_push_size _ rfl, rfl, rfl⟩, ⟨ol, Heap.get?_push_of_some _ hol, rl⟩⟩, ?_, ⟨?_, ?_⟩, ?_⟩
  · intro b hb
    show b < (s.heap.push _).objs.size
    rw [Heap.size_push]
    rcases List.mem_cons.mp hb with rfl | hb
    · exact Nat.lt_succ_self _
    · rw [List.mem_singleton.mp hb]; exact Nat.lt_succ_of_lt hlt
  · exact fun C i v s₃ m₃ E' hC hP hn hm hk _ => tests C i v s₃ m₃ E' (Nat.le_trans (sz _) hC) (by simpa using hP) hn hm (up _ _ hk)
  · exact fun C i v s₃ m₃ E' hC hP hp hn hm hk _ => helt C i v s₃ m₃ E' (Nat.le_trans (sz _) hC) (by simpa using hP) hp hn hm (up _ _ hk)
  · intro D s' ys vs' hDL hD hpl hlen hP hPair hk hG hdr hos
    obtain rfl := told_all (by simpa using hlen) fun j v e => by simpa using hP j v e
    exact fin D s' ys (Nat.le_trans (sz _) hDL) hpl hPair (up _ _ hk) hG hdr hos
end

/-- parse_http_list's state: the parts behind it, the part under way, and whether a sign is held back, whether a quote is open. -/
def httpStep (st : List Str × Str × Bool × Bool) (cur : Str) : List Str × Str × Bool × Bool :=
  if st.2.2.1 then (st.1, st.2.1 ++ cur, false, st.2.2.2)
  else if st.2.2.2 then
    if cur == Str.ofString "\\" then (st.1, st.2.1, true, true)
    else if cur == Str.ofString "\"" then (st.1, st.2.1 ++ cur, false, false)
    else (st.1, st.2.1 ++ cur, false, true)
  else if cur == Str.ofString "," then (st.1 ++ [st.2.1], Str.ofString "", false, false)
  else if cur == Str.ofString "\"" then (st.1, st.2.1 ++ cur, false, true)
  else (st.1, st.2.1 ++ cur, false, false)
def httpAt (x : Str) (i : Nat) : List Str × Str × Bool × Bool := ((x.cps.toList.take i).map fun c => (⟨#[c]⟩ : Str)).foldl httpStep ([], Str.ofString "", false, false)
def httpParts (x : Str) : List Str := (httpAt x x.cps.size).1 ++ (if (httpAt x x.cps.size).2.1.length = 0 then [] else [(httpAt x x.cps.size).2.1])
def httpList (x : Str) : List Str := (httpParts x).map fun p => Txt.strip p
theorem httpAt_succ {x : Str} {i c : Nat} (h : x.cps[i]? = some c) : httpAt x (i + 1) = httpStep (httpAt x i) ⟨#[c]⟩ := by
  have h' : x.cps.toList[i]? = some c := by simpa using h
  unfold httpAt
  rw [List.take_add_one, h']
  simp [List.foldl_append]

def stripVal (v y : Value) : Prop := ∃ p t u, v = .str p t ∧ y = .str (Txt.strip p) u
theorem strsAt {us : List Value} {ws : List Str} (h : StrsAre us ws) {i : Nat} {v : Value} (e : us[i]? = some v) : ∃ p t, v = .str p t ∧ ws[i]? = some p := h.item i v e
theorem strsStrip : ∀ {vs ys : List Value} {l : List Str}, StrsAre vs l → Paired stripVal vs ys → StrsAre ys (l.map fun p => Txt.strip p)
  | _, _, _, .nil, .nil => .nil
  | _, _, _, .cons y t r, .cons h p => by
    obtain ⟨one, t₁, u, e, rfl⟩ := h
    cases e
    exact .cons _ u (strsStrip r p)
theorem noneOf {h h' : Heap} {a : Addr} (hk : Keep h h') (ha : h'.objs.size ≤ a) : h.get? a = none := by
  cases e : h.get? a with
  | none => rfl
  | some o => exact absurd (Heap.lt_size (hk a o e)) (Nat.not_lt.mpr ha)
theorem newsAdd {h₀ hc h' : Heap} {L a : Addr} {m : Str → Option Value} {news : List (Addr × Obj)} {o : Obj} (F : Fr h₀ L hc m) (N : News h₀ L hc news) (hk : Keep hc h') (ho : h'.get? a = some o) (hn : hc.get? a = none) : News h₀ L h' ((a, o) :: news) := by
  have fresh : h₀.get? a = none := by
    rcases e : h₀.get? a with _ | o'
    · rfl
    · exact nomatch (F.keep a o' e).symm.trans hn
  have off : a ≠ L := fun q => by
    obtain ⟨oL, _, _, hL, _⟩ := F.ns
    exact nomatch (q ▸ hL).symm.trans hn
  exact List.forall_mem_cons.mpr ⟨⟨ho, off, fresh⟩, fun p hp => ⟨hk _ _ (N p hp).1, (N p hp).2⟩⟩
theorem newsNe {h₀ hc : Heap} {L a : Addr} {news : List (Addr × Obj)} (N : News h₀ L hc news) (hn : hc.get? a = none) : ∀ p ∈ news, p.1 ≠ a := fun p hp q => by
  have := (N p hp).1
  rw [q, hn] at this
  cases this
def HttpJ (hb : Heap) (s₀ : Shared) (x : Str) (t : Tok) (I : Addr) (i : Nat) (s' : Shared) : Prop :=
  ∃ (D n : Nat) (m' : Str → Option Value) (oI : Obj) (vs : List Value) (res : List Str) (part : Str) (tp : Tok) (esc quo : Bool), Fr hb hb.objs.size s'.heap m' ∧
    News hb hb.objs.size s'.heap [(I, oI), (D, W.listOf vs.toArray n)] ∧ (oI.cls = .type (strIterType x) ∧ oI.data = .fields #[.str x t, .int i 0]) ∧ D < I ∧
    m' (Str.ofString "res") = some (.ref D) ∧ m' (Str.ofString "part") = some (.str part tp) ∧ m' (Str.ofString "escape") = some (.bool esc) ∧ m' (Str.ofString "quote") = some (.bool quo) ∧
    StrsAre vs res ∧ httpAt x i = (res, part, esc, quo) ∧ part.length ≤ i ∧ res.length ≤ i ∧ (∀ p ∈ res, p.length ≤ 2000) ∧ s'.gens = s₀.gens ∧ s'.drawn = s₀.drawn ∧ s'.os = s₀.os
local macro_rules | `(tactic| walk_at "eval Name") => `(tactic| (walk_at "mine name"))
local macro_rules | `(tactic| walk_at "exec For Name Name cons nil") => `(tactic| (k_here; refine Halt.of ?_))
local macro_rules | `(tactic| walk_at "eval ListComp") => `(tactic| (k_here; refine Halt.of ?_))
local macro_rules | `(tactic| walk_at "call builtin:list.append") => `(tactic| (walk_at "mine append"))
section
variable {w : World} {dp un : Nat} {fr : Option (List Env)} {gd : Option (List Code)} {s : Shared} {mean : ExcName → Option Value} {mg mb : Str → Option Value}
theorem c_http {R : Result → Shared → Prop} {x : Str} {t : Tok} (X : (hd.heap_39 w.params).In s.heap) (T : Top hd.view_39 (looseW hd.view_39 []) mean mg mb s.heap) (hroom : dp + 100 < recursionLimit) (hu : un + 1000 < cLine) (hx : x.length ≤ 2000)
    (h : ∀ a s' us', Keep s.heap s'.heap → s.heap.get? a = none → s'.heap.PlainList a us'.toArray → StrsAre us' (httpList x) → s'.gens = s.gens → s'.drawn = s.drawn → s'.os = s.os → R (.ok (.ret (.ref a))) s') :
    codeAny (model PySem.Challenge.rw_kl0414_01.row.prog w) (Around.mk none dp fr gd un) (.call (.ref 61) ⟨[.str x t], []⟩) R s := by
  revert X; k_fill; intro X
  refine' callB (binds := [(Str.ofString "s", .str x t)]) ?k1 ?k2 ?k3 ?k6 ?k7 ?k9 ?kB ?_ ?c5 ?c2 ?c3 ?c4
  case k1 => exact X
  case k2 => exact T.nolimit
  case k3 => (try dsimp only); omega
  case k6 => k_is
  case k7 => k_is
  case k9 => exact rfl
  case kB => exact locs rfl
  case c5 => decide
  case c2 => exact rfl
  case c3 => exact rfl
  case c4 => exact rfl
  intro h₁ F
  have N : News s.heap s.heap.objs.size h₁ [] := News.nil
  try dsimp only
  k_steps
  refine Halt.go ?_
  refine' For_J ?_
  k_steps
  with_reducible rename News _ _ _ _ => kN
  with_reducible rename Fr _ _ _ _ => kF
  refine forStr (HttpJ s.heap s x t) rfl ?_ ?_ ?_ ?_
  · exact ⟨_, _, _, _, _, _, _, _, _, _, kF.push _, News.push kF kN _ rfl, ⟨rfl, rfl⟩, Heap.lt_size (kN _ (List.Mem.head _)).1, rfl, rfl, rfl, rfl, .nil, rfl, Nat.le_refl _, Nat.le_refl _, nofun, rfl, rfl, rfl⟩
  · rintro I i s' ⟨D, n, m', oI, vs, res, part, tp, esc, quo, F', N', hI, _⟩
    exact ⟨oI, (N' _ (List.Mem.head _)).1, hI⟩
  · clear kN kF
    rintro I i s' c u h' tk' hc ⟨D, n, m', oI, vs, res, part, tp, esc, quo, F', N', hI, hDI, hm1, hm2, hm3, hm4, hST, hAt, hpl, hrl, hpr, hg, hdr, hos⟩ ⟨oI', hI', hI2⟩ hk
    obtain ⟨F₁, N₁⟩ := moveI F' N' (by simp [Nat.ne_of_lt hDI]) hI' hk
    clear F' N' hk
    have hnext := httpAt_succ hc
    rw [hAt] at hnext
    have hi : i < x.length := by
      have := Array.getElem?_eq_some_iff.mp hc
      exact this.1
    replace F₁ := Fr.known0 (Fr.known0 (Fr.known0 (Fr.known0 F₁ hm1) ((if_neg (by decide)).trans hm2)) ((if_neg (by decide)).trans ((if_neg (by decide)).trans hm3))) ((if_neg (by decide)).trans ((if_neg (by decide)).trans ((if_neg (by decide)).trans hm4)))
    have hvl : vs.length ≤ 2000 := by rw [hST.length]; omega
    have hc1 : (⟨#[c]⟩ : Str).length = 1 := rfl
    generalize (⟨#[c]⟩ : Str) = cur at hnext hc1 ⊢
    cases esc <;> cases quo
    all_goals k_steps
    all_goals first
      | exact .inl rfl
      | exact .inr rfl
      | (refine' ⟨D, _, _, oI', _, _, _, _, _, _, ‹Fr _ _ _ _›, ‹News _ _ _ _›, hI2, hDI, ?m1, ?m2, ?m3, ?m4, ?e1, ?e2, ?e3, ?e4, ?e5, hg, hdr, hos⟩
         case m1 => exact rfl
         case m2 => exact rfl
         case m3 => exact rfl
         case m4 => exact rfl
         case e1 => first | exact hST | exact kct_snoc hST
         case e2 => rw [hnext]; simp [httpStep, *]; try rfl
         case e3 => first | omega | exact Nat.zero_le _
         case e4 => (try rw [List.length_append]); (try simp only [List.length_cons, List.length_nil]); omega
         case e5 => first | exact hpr | (intro p hp; rcases List.mem_append.mp hp with hp | hp; exact hpr p hp; rw [List.mem_singleton.mp hp]; omega))
  · clear kN kF
    rintro I s' h' tk' ⟨D, n, m', oI, vs, res, part, tp, esc, quo, F', N', hI, hDI, hm1, hm2, hm3, hm4, hST, hAt, hpl, hrl, hpr, hg, hdr, hos⟩ hk
    obtain ⟨F₁, N₁⟩ := moveOff F' N' (by simp [Nat.ne_of_lt hDI]) hk
    clear F' N' hk
    replace F₁ := Fr.known0 (Fr.known0 F₁ hm1) ((if_neg (by decide)).trans hm2)
    have hsz : x.cps.size = x.length := rfl
    have hvl : vs.length ≤ 2000 := by rw [hST.length]; omega
    have hpq : ∀ p ∈ httpParts x, p.length ≤ 2000 := by
      have e : httpParts x = res ++ (if part.length = 0 then [] else [part]) := by unfold httpParts; rw [hAt]
      rw [e]
      intro p hp
      rcases List.mem_append.mp hp with hp | hp
      · exact hpr p hp
      · split at hp
        · cases hp
        · rw [List.mem_singleton.mp hp]; omega
    have hprt : httpParts x = res ++ (if part.length = 0 then [] else [part]) := by unfold httpParts; rw [hAt]
    k_steps
    all_goals refine Halt.go ?_
    all_goals first
      | have hS2 : StrsAre (vs ++ [.str part tp]) (httpParts x) := (by rw [hprt, if_neg (by omega)]; exact kct_snoc hST)
      | have hS2 : StrsAre vs (httpParts x) := (by rw [hprt, if_pos (by omega), List.append_nil]; exact hST)
    all_goals
      refine listComp_S (fun _ => true) stripVal (cl := []) (by with_unfolding_all rfl) (by decide) (by exact rfl) (by decide) (by exact rfl) ?_
      k_steps
      with_reducible rename Fr _ _ _ _ => kF
      with_reducible rename News _ _ _ _ => kN
      have hl := News.isList kN (.head _)
      refine compLst (vs := _) rfl (by exact hl) ?_ ?_ ?_ ?_
      · rw [sizeLine_eq]
        (try rw [List.length_append]); (try simp only [List.length_cons, List.length_nil]); omega
      · rintro C i v s₃ m₃ E' hC hv hn hm hk
        exact wpAny_tests_nil ⟨rfl, _, _, rfl, fun _ _ e => e⟩
      · rintro C i v s₃ m₃ E' hC hv _ hn hm hk
        obtain ⟨p, t₁, rfl, hp⟩ := strsAt hS2 hv
        obtain ⟨FC, NC⟩ := compFrK kF kN hC hn hk
        clear kF kN
        replace FC := Fr.known0 FC hm
        have hp2 := hpq p (List.mem_of_getElem? hp)
        k_steps
        · exact ⟨_, _, _, rfl, rfl⟩
        · exact ⟨_, _, rfl, fun _ _ e => e⟩
      · intro D₂ s₃ ys hDL hpl2 hPair hK hg3 hdr3 hos3
        obtain ⟨ys⟩ := ys
        rw [List.filter_eq_self.mpr (fun _ _ => rfl)] at hPair
        exact h _ _ _ (fun b o e => hK b o (kF.keep b o e)) (noneOf kF.keep hDL) hpl2 (strsStrip hS2 hPair) (hg3.trans hg) (hdr3.trans hdr) (hos3.trans hos)
end
end Mine
-- part KQ
namespace Mine
theorem partKQ {M : Model} {A : Around} {v : Value} {Q : Value → Shared → Prop} {E : Value → Shared → Prop} {s : Shared} (h : Q v s) : wpAny M A (pure v : Sem Value) Q E s := by
  w_top off
  first | (walk1; exact h) | exact wpAny_pure h
end Mine
open PySem PySem.W PyProof.Rows PySem.Calls
set_option maxRecDepth 100000
set_option maxHeartbeats 8000000
namespace Mine
open PyProof.V in
/-- one part 'k=v' as a pair, the value's double quotes off -/
def keqvOf (e : Str) : Option (Str × Str) := match Txt.splitMax e (Str.ofString "=") 1 with
  | [k, v] => if v.length = 0 then none else some (k, if (Txt.item v 0 == Str.ofString "\"" && Txt.item v (-1) == Str.ofString "\"") = true then Txt.slice v (some 1) (some (-1)) else v)
  | _ => none
theorem keqvOf_some {e : Str} {kv : Str × Str} (h : keqvOf e = some kv) : ∃ k v, Txt.splitMax e (Str.ofString "=") 1 = [k, v] ∧ v.length ≠ 0 ∧ kv = (k, if (Txt.item v 0 == Str.ofString "\"" && Txt.item v (-1) == Str.ofString "\"") = true then Txt.slice v (some 1) (some (-1)) else v) := by
  unfold keqvOf at h
  split at h
  · rename_i k v hs
    split at h
    · cases h
    · exact ⟨k, v, hs, ‹_›, (Option.some.inj h).symm⟩
  · cases h
def keqvPut (D : List (PyData × PyData)) (e : Str) : List (PyData × PyData) := match keqvOf e with
  | some (k, v) => PyProof.V.putD (.str k) (.str v) D
  | none => D
def keqvAt (es : List Str) (i : Nat) : List (PyData × PyData) := (es.take i).foldl keqvPut []
def KeqJ (w : World) (hb : Heap) (s₀ : Shared) (l : Addr) (es : List Str) (I : Nat) (i : Nat) (s' : Shared) : Prop :=
  ∃ (D : Nat) (m' : Str → Option Value) (oI oD : Obj) (kvs : List (Str × Value)), Fr hb hb.objs.size s'.heap m' ∧
    News hb hb.objs.size s'.heap [(I, oI), (D, oD)] ∧ (oI.cls = .type "list_iterator" ∧ oI.data = .fields #[.ref l, .int i 0]) ∧ D < I ∧
    m' (Str.ofString "parsed") = some (.ref D) ∧ (D == sysModules) = false ∧ oD.IsDictOf (PySem.strKind PySem.Challenge.rw_kl0414_01.row.prog w) kvs ∧ PyProof.V.FlatPairs PyData.str kvs (keqvAt es i) ∧
    (keqvAt es i).length ≤ i ∧ s'.gens = s₀.gens ∧ s'.drawn = s₀.drawn ∧ s'.os = s₀.os
local macro_rules | `(tactic| walk_at "exec For Name Name cons nil") => `(tactic| (k_here; refine Halt.of ?_))
section
variable {prog : Program} {w : World} {A : Around} {E : Value → Shared → Prop} {s : Shared}
theorem splitMaxL {h₀ : Heap} {L : Addr} {m : Str → Option Value} {news : List (Addr × Obj)} {x y : Str} {t u v : Tok} {k : Int} {Q : Value → Shared → Prop} (hF : Fr h₀ L s.heap m) (hN : News h₀ L s.heap news) (hy : (y.length == 0) = false) (hk : (decide (k < -(2 ^ 63 : Int)) || decide (k ≥ 2 ^ 63)) = false)
    (h : ∀ D l h' tk, l.map (·.1) = Txt.splitMax x y k → (∀ a ∈ l.map (·.1), a.length ≤ x.length) → Fr h₀ L h' m → News h₀ L h' ((D, { cls := .type "list", data := .seq (strValues l).toArray }) :: news) → (∀ p ∈ news, p.1 < D) → Q (.ref D) { s with heap := h', toks := tk })
    (hsz : x.length + 2 ≤ sizeLine) : wpAny (model prog w) A (call (.builtin "str.split") [.str x t, .str y u, .int k v]) Q E s :=
  splitN2A hF hN hy hk (fun l h' tk e _ ln _ F' N' => h _ l h' tk e ln F' N' fun p hp => Heap.lt_size (hN p hp).1) hsz
end
local macro_rules | `(tactic| walk_at "setItem ref str") => `(tactic| (k_here; (with_reducible show wpAny _ _ (setItem (Value.ref _) (Value.str _ _) (Value.str _ _)) _ _ _); k_dflt (refine' setItem_K PyProof.V.same_str (strKind_is _ _ _ _) (PyProof.V.Flat.str _ _) ?F ?N ?U ?d ?f ?_ ?z; (case F => k_asm); (case N => k_asm); (case U => k_updF); (case d => k_asm); (case f => k_asm); (case z => assumption)); intro h' o' F' N' hd' hf'; (try dsimp only at N'); (try k_sweep)))
local macro_rules | `(tactic| walk_at "call builtin:str.split") => `(tactic| (k_here; (with_reducible show wpAny _ _ (call (Value.builtin "str.split") [Value.str _ _, Value.str _ _, Value.int _ _]) _ _ _); k_dflt (refine' splitMaxL ?F ?N ?y ?k ?_ ?z; (case F => k_asm); (case N => k_asm); (case y => decide); (case k => decide); (case z => (rw [sizeLine_eq]; omega))); intro D' l' h' k' e1 ln1 F' N' l1; (try k_lt l1); rename Txt.splitMax _ _ _ = _ => hsp; rw [hsp] at e1; obtain ⟨t1, r1, q1, e2⟩ := KSpl.cons_of e1; subst q1; obtain ⟨t2, r2, q2, e3⟩ := KSpl.cons_of e2; subst q2; have e4 := KSpl.nil_of e3; subst e4; simp only [strValues, List.map_cons, List.map_nil] at N'; have kl1 := ln1 _ (List.Mem.head _); have kl2 := ln1 _ (List.Mem.tail _ (List.Mem.head _)); (try dsimp only at kl1 kl2); clear ln1 e1 e2 e3))
section
variable {w : World} {dp un : Nat} {fr : Option (List Env)} {gd : Option (List Code)} {s : Shared} {mean : ExcName → Option Value} {mg mb : Str → Option Value}
theorem c_keqv {R : Result → Shared → Prop} {l : Addr} {us : List Value} {es : List Str} (X : (hd.heap_39 w.params).In s.heap) (T : Top hd.view_39 (looseW hd.view_39 []) mean mg mb s.heap) (hroom : dp + 100 < recursionLimit)
    (hl : s.heap.IsList l us.toArray) (hus : StrsAre us es) (hlen : es.length ≤ 100) (hes : ∀ e ∈ es, e.length ≤ 2000 ∧ ∃ kv, keqvOf e = some kv)
    (h : ∀ a s' o kvs, Keep s.heap s'.heap → s.heap.get? a = none → s'.heap.get? a = some o → (a == sysModules) = false → o.IsDictOf (PySem.strKind PySem.Challenge.rw_kl0414_01.row.prog w) kvs → PyProof.V.FlatPairs PyData.str kvs (keqvAt es es.length) → s'.gens = s.gens → s'.drawn = s.drawn → s'.os = s.os → R (.ok (.ret (.ref a))) s') :
    codeAny (model PySem.Challenge.rw_kl0414_01.row.prog w) (Around.mk none dp fr gd un) (.call (.ref 56) ⟨[.ref l], []⟩) R s := by
  revert X; k_fill; intro X
  refine' callB (binds := [(Str.ofString "l", .ref l)]) ?k1 ?k2 ?k3 ?k6 ?k7 ?k9 ?kB ?_ ?c5 ?c2 ?c3 ?c4
  case k1 => exact X
  case k2 => exact T.nolimit
  case k3 => (try dsimp only); omega
  case k6 => k_is
  case k7 => k_is
  case k9 => exact rfl
  case kB => exact locs rfl
  case c5 => decide
  case c2 => exact rfl
  case c3 => exact rfl
  case c4 => exact rfl
  intro h₁ F
  have N : News s.heap s.heap.objs.size h₁ [] := News.nil
  try dsimp only
  k_steps
  refine Halt.go ?_
  refine' For_J ?_
  k_steps
  with_reducible rename News _ _ _ _ => kN
  with_reducible rename Fr _ _ _ _ => kF
  refine forLst (vs := us) (KeqJ w s.heap s l es) rfl (stays_list kF.keep hl) ?_ ?_ ?_ ?_
  · exact ⟨_, _, _, _, _, kF.push _, News.push kF kN _ rfl, ⟨rfl, rfl⟩, Heap.lt_size (kN _ (List.Mem.head _)).1, rfl, ‹_›, ‹_›, ‹_›, Nat.le_refl _, rfl, rfl, rfl⟩
  · rintro I i s' ⟨D, m', oI, oD, kvs, F', N', hI, _⟩
    exact ⟨⟨oI, (N' _ (List.Mem.head _)).1, hI⟩, stays_list F'.keep hl⟩
  · clear kN kF
    rintro I i s' v h' tk' hv ⟨D, m', oI, oD, kvs, F', N', hI, hDI, hm1, hsys, hdict, hflat, hkl, hg, hdr, hos⟩ ⟨oI', hI', hI2⟩ hk
    obtain ⟨F₁, N₁⟩ := moveI F' N' (by simp [Nat.ne_of_lt hDI]) hI' hk
    clear F' N' hk
    obtain ⟨e, t, rfl, he⟩ := strsAt hus hv
    obtain ⟨hel, kv, hkv⟩ := hes e (List.mem_of_getElem? he)
    replace F₁ := Fr.known0 F₁ hm1
    obtain ⟨k, x, hsp, hx0, rfl⟩ := keqvOf_some hkv
    have hi : i < es.length := (List.getElem?_eq_some_iff.mp he).1
    have hkz : (keqvAt es i).length ≤ sizeLine := by rw [sizeLine_eq]; omega
    have hnext : keqvAt es (i + 1) = PyProof.V.putD (.str k) (.str (if (Txt.item x 0 == Str.ofString "\"" && Txt.item x (-1) == Str.ofString "\"") = true then Txt.slice x (some 1) (some (-1)) else x)) (keqvAt es i) := by
      unfold keqvAt
      rw [List.take_add_one, he]
      simp only [Option.toList_some, List.foldl_append, List.foldl_cons, List.foldl_nil]
      rw [keqvPut, hkv]
    have hnl : (keqvAt es (i + 1)).length ≤ i + 1 := by rw [hnext]; exact Nat.le_trans (PyProof.V.putD_length_le _ _ _) (Nat.succ_le_succ hkl)
    k_steps
    all_goals first
      | exact .inl rfl
      | exact .inr rfl
      | (refine' ⟨D, _, oI', _, _, ‹Fr _ _ _ _›, fun p hp => ‹News _ _ _ _› p (List.mem_cons_of_mem _ hp), hI2, hDI, ?m1, hsys, ‹Obj.IsDictOf _ _ (stored _ _ _)›, ?e1, hnl, hg, hdr, hos⟩
         case m1 => exact rfl
         case e1 =>
           rw [hnext]
           clear hnext hkv
           first
             | (rw [if_pos (by simp [*])]; assumption)
             | (rw [if_neg (by simp [*])]; assumption))
  · clear kN kF
    rintro I s' h' tk' ⟨D, m', oI, oD, kvs, F', N', hI, hDI, hm1, hsys, hdict, hflat, hkl, hg, hdr, hos⟩ hk
    obtain ⟨F₁, N₁⟩ := moveOff F' N' (by simp [Nat.ne_of_lt hDI]) hk
    clear F' N' hk
    replace F₁ := Fr.known0 F₁ hm1
    k_steps
    have hE : us.length = es.length := hus.length
    rw [hE] at hflat
    exact h _ _ _ _ F₁.keep (N₁ _ (List.Mem.head _)).2.2 (N₁ _ (List.Mem.head _)).1 hsys hdict hflat hg hdr hos
end
end Mine
-- part KZ
namespace Mine
theorem partKZ {M : Model} {A : Around} {v : Value} {Q : Value → Shared → Prop} {E : Value → Shared → Prop} {s : Shared} (h : Q v s) : wpAny M A (pure v : Sem Value) Q E s := by
  w_top off
  first | (walk1; exact h) | exact wpAny_pure h
end Mine
open PySem PySem.W PyProof.Rows PySem.Calls
set_option maxRecDepth 100000
set_option maxHeartbeats 2000000
namespace Mine
section
variable {prog : Program} {w : World} {A : Around} {s : Shared} {env : Env} {R : Result → Shared → Prop}
/-- The turns of a list comprehension over pairs: a : b names, no tests, elements look only. -/
theorem loopZ {elt iter : Expr} {a b : Str} {pa pb tp : Pos} {kk : Nat} {scope : Scope} {pos : Pos} {I D : Addr} {fp wr : List Addr} {n : Nat} {Pt : Nat → Array Value → Prop} {St : Nat → Heap → Prop} {Mid : Nat → Addr → Heap → Prop}
    {cenv : Env} {m : Str → Option Value} (W : WalksT prog w A I fp wr n Pt St Mid) (P2 : Nat → Value → Value → Prop) (F : Nat → Value → Prop) (hPt : ∀ i vals, Pt i vals → ∃ x y, vals = #[x, y] ∧ P2 i x y) (hh : A.handled = none)
    (ha : cenv.kindOf a = some .local) (hb : cenv.kindOf b = some .local) (hab : a ≠ b) (hp : (cenv.scope.kind == .class || (cenv.scope.kind == .module && cenv.locals != cenv.globals)) = false)
    (hDC : D ≠ cenv.locals) (hDf : D ∉ fp) (hCf : cenv.locals ∉ fp)
    (hst : St 0 s.heap) (hacc : s.heap.PlainList D #[]) (hn : s.heap.Ns cenv.locals m)
    (helt : ∀ i x y s₂ m₂, P2 i x y → s₂.heap.Ns cenv.locals m₂ → m₂ a = some x → m₂ b = some y → (∀ c o, c ≠ cenv.locals → c ∉ wr → c ≠ D → s.heap.get? c = some o → s₂.heap.get? c = some o) →
      wpAny (model prog w) A (eval elt cenv) (fun v s₃ => F i v ∧ Keeps s₂ s₃) (fun _ _ => False) s₂)
    (hR : ∀ s' m' (ys : List Value), s'.heap.Ns cenv.locals m' → s'.heap.PlainList D ys.toArray → ys.length = n → (∀ j v, ys[j]? = some v → F j v) →
      (∀ c o, c ≠ cenv.locals → c ∉ wr → c ≠ D → s.heap.get? c = some o → s'.heap.get? c = some o) → s'.gens = s.gens → s'.drawn = s.drawn → s'.os = s.os → R (.ok .next) s')
    (hsz : n ≤ sizeLine) :
    codeAny (model prog w) A (.compLoop (.ListComp elt [⟨.Tuple [.Name a pa, .Name b pb] kk tp, iter, [], 0⟩] scope pos) 0 (.ref I) (.ref D) cenv) R s := by
  have hCw : cenv.locals ∉ wr := fun h => hCf (W.sub _ h)
  have hDw : D ∉ wr := fun h => hDf (W.sub _ h)
  refine kcp_loop
    (fun k s' => ∃ h' tk m', ∃ ys : List Value, s' = { s with heap := h', toks := tk } ∧ St ys.length h' ∧ h'.PlainList D ys.toArray ∧ h'.Ns cenv.locals m' ∧ (∀ j v, ys[j]? = some v → F j v) ∧ ys.length ≤ n ∧ k = n + 1 - ys.length ∧
      (∀ c o, c ≠ cenv.locals → c ∉ wr → c ≠ D → s.heap.get? c = some o → h'.get? c = some o)) ?_ (n + 1)
    ⟨s.heap, s.toks, m, [], rfl, hst, hacc, hn, by simp, Nat.zero_le _, rfl, fun _ _ _ _ _ e => e⟩
  rintro k s' ⟨h', tk, m', ys, rfl, hst', hacc', hn', hF, hi, rfl, hk⟩
  by_cases hlt : ys.length < n
  · refine W.item ys.length _ _ _ hlt hst' fun T vals h₁ tk₁ hPv _ hT hMid hk₁ => ?_
    have hTw := W.apart _ _ _ hMid
    refine W.go _ _ _ ys.length T _ _ _ hMid fun h₂ hst₂ hk₂ => ?_
    obtain ⟨x, y, rfl, hP2⟩ := hPt _ _ hPv
    have hT₂ : h₂.IsTuple T #[x, y] := hT.at fun o e => hk₂ _ o hTw e
    have hn₂ : h₂.Ns cenv.locals m' := hn'.at' fun o e => hk₂ _ o hCw (hk₁ _ o hCw e)
    refine kcp_assign hh hT₂ ha hb hp hn₂ fun h₃ tk₃ hn₃ hk₃ => ?_
    have up : ∀ c o, c ≠ cenv.locals → c ∉ wr → h'.get? c = some o → h₃.get? c = some o := fun c o h1 h2 e => hk₃ c o h1 (hk₂ c o h2 (hk₁ c o h2 e))
    have hst₃ : St (ys.length + 1) h₃ := W.frame _ _ _ hst₂ fun c hc o e => hk₃ c o (fun q => hCf (q ▸ hc)) e
    refine wpAny_mono (helt ys.length x y { s with heap := h₃, toks := tk₃ } _ hP2 hn₃ (by simp [hab]) (by simp) fun c o h1 h2 h3 e => up c o h1 h2 (hk c o h1 h2 h3 e)) (fun v s₄ h₄ => ?_) fun _ _ e => e.elim
    obtain ⟨hFv, h₄, tk₄, rfl, hk₄⟩ := h₄
    have hsy : ys.toArray.size ≤ sizeLine := by rw [List.size_toArray]; omega
    refine wpAny_list_append_plain (hsz := hsy) (hacc'.at fun o e => hk₄ _ o (up D o hDC hDw e)) fun h₅ hl₅ hs₅ => ?_
    have hlen : (ys ++ [v]).length = ys.length + 1 := by rw [List.length_append, List.length_singleton]
    refine ⟨n + 1 - (ys.length + 1), by omega, h₅, tk₄, _, ys ++ [v], rfl, ?_, ?_, (hn₃.keeps hk₄).sameBut hs₅ (Ne.symm hDC), ?_, (by rw [hlen]; exact hlt), (by rw [hlen]), fun c o h1 h2 h3 e => hs₅.extBut c o h3 (hk₄ c o (up c o h1 h2 (hk c o h1 h2 h3 e)))⟩
    · rw [hlen]
      exact W.frame _ _ _ hst₃ fun c hc o e => hs₅.extBut c o (fun q => hDf (q ▸ hc)) (hk₄ c o e)
    · rw [List.push_toArray] at hl₅
      exact hl₅
    · exact told_snoc hF hFv
  · have hin : ys.length = n := by omega
    refine W.done _ _ _ (hin ▸ hst') fun h₁ tk₁ hk₁ => ?_
    exact hR _ m' ys (hn'.at' fun o e => hk₁ _ o hCw e) (hacc'.at fun o e => hk₁ _ o hDw e) hin hF (fun c o h1 h2 h3 e => hk₁ c o h2 (hk c o h1 h2 h3 e)) rfl rfl rfl

/-- What a list comprehension over pairs asks behind its iterator. -/
def CompZ (prog : Program) (w : World) (A : Around) (env : Env) (scope : Scope) (cl : List (Str × Addr)) (a b : Str) (pa pb tp : Pos) (kk : Nat) (elt iter : Expr) (pos : Pos) (use : Option (Value → Sem Unit)) (E : Value → Shared → Prop) (Q : Value → Shared → Prop) (it : Value) (s₂ : Shared) : Prop :=
  CompAt prog w A env scope cl (newList []) (.ListComp elt [⟨.Tuple [.Name a pa, .Name b pb] kk tp, iter, [], 0⟩] scope pos) use E Q it s₂
theorem listComp_Z {elt iter : Expr} {a b : Str} {pa pb tp : Pos} {kk : Nat} {scope : Scope} {cl : List (Str × Addr)} {pos : Pos} {E Q : Value → Shared → Prop} (free : closureFor scope env = pure cl) (isf : scope.kind = .function) (locs : ∀ z ∈ scope.names, z.2 = .local → scope.names.lookup z.1 = some .local)
    (src : wpAny (model prog w) A (eval iter env) (fun v s₁ => wpAny (model prog w) A (pyIter v) (CompZ prog w A env scope cl a b pa pb tp kk elt iter pos none E Q) E s₁) E s) (plain : ∀ v, foldedSetIterable iter env v = pure v := by intro _; rfl) :
    wpAny (model prog w) A (eval (.ListComp elt [⟨.Tuple [.Name a pa, .Name b pb] kk tp, iter, [], 0⟩] scope pos) env) Q E s := compEval free isf locs src plain
theorem assignComp_Z {elt iter : Expr} {a b y : Str} {pa pb tp py : Pos} {kk : Nat} {scope : Scope} {cl : List (Str × Addr)} {pos at_ : Pos} {E : Value → Shared → Prop} {Q : Flow → Shared → Prop}
    (swap : swapsWith (.ListComp elt [⟨.Tuple [.Name a pa, .Name b pb] kk tp, iter, [], 0⟩] scope pos) (some (.Name y py)) at_.line env = pure true) (free : closureFor scope env = pure cl) (isf : scope.kind = .function) (locs : ∀ z ∈ scope.names, z.2 = .local → scope.names.lookup z.1 = some .local)
    (src : wpAny (model prog w) A (eval iter env) (fun v s₁ => wpAny (model prog w) A (pyIter v) (CompZ prog w A env scope cl a b pa pb tp kk elt iter pos (some (assign (.Name y py) env)) E (fun _ s' => Q .next s')) E s₁) E s) (plain : ∀ v, foldedSetIterable iter env v = pure v := by intro _; rfl) :
    wpAny (model prog w) A (exec (.Assign [.Name y py] (.ListComp elt [⟨.Tuple [.Name a pa, .Name b pb] kk tp, iter, [], 0⟩] scope pos) at_) env) Q E s := compStore swap free isf locs src plain

/-- zip of two lists as such a source -/
theorem zipBlock {l1 l2 : Addr} {xs ys : List Value} {elt iter : Expr} {a b : Str} {pa pb tp : Pos} {kk : Nat} {scope : Scope} {cl : List (Str × Addr)} {pos : Pos} {use : Option (Value → Sem Unit)} {E Q : Value → Shared → Prop} (F : Value → Value → Value → Prop)
    (hh : A.handled = none) (hl1 : s.heap.IsList l1 xs.toArray) (hl2 : s.heap.IsList l2 ys.toArray) (hsz : xs.length ≤ sizeLine)
    (hcell : ∀ y ∈ scope.names, y.2 ≠ .cell) (hkind : scope.kind = .function) (ha : scope.names.lookup a = some .local) (hb : scope.names.lookup b = some .local) (hab : a ≠ b)
    (helt : ∀ C (i : Nat) x y s₃ m₃ E', s.heap.objs.size ≤ C → xs[i]? = some x → ys[i]? = some y → s₃.heap.Ns C m₃ → m₃ a = some x → m₃ b = some y → Keep s.heap s₃.heap →
      wpAny (model prog w) A (eval elt (compEnvC scope cl C env)) (fun v s₄ => F x y v ∧ Keeps s₃ s₄) E' s₃)
    (fin : ∀ D C s' m' (vs : List Value), s.heap.objs.size ≤ D → s.heap.objs.size ≤ C → D ≠ C → s'.heap.Ns C m' → s'.heap.PlainList D vs.toArray → vs.length = min xs.length ys.length → (∀ (j : Nat) v, vs[j]? = some v → ∃ x y, xs[j]? = some x ∧ ys[j]? = some y ∧ F x y v) →
      Keep s.heap s'.heap → s'.gens = s.gens → s'.drawn = s.drawn → s'.os = s.os → compPost (model prog w) A E use Q (.ref D) C (.ok .next) s') :
    wpAny (model prog w) A (call (.type "zip") [.ref l1, .ref l2]) (fun xv s₁ => wpAny (model prog w) A (pyIter xv) (CompZ prog w A env scope cl a b pa pb tp kk elt iter pos use E Q) E s₁) E s := by
  have hlt1 : l1 < s.heap.objs.size := by obtain ⟨o, e, _⟩ := id hl1; exact Heap.lt_size e
  have hlt2 : l2 < s.heap.objs.size := by obtain ⟨o, e, _⟩ := id hl2; exact Heap.lt_size e
  refine call_zip_2 hl1 hl2 fun h' hz hTI hTO hi1 hi2 hsz' hk' => ?_
  refine wpAny_pyIter_zip hz ?_
  have W := WalksT.zip2 (prog := prog) (w := w) hh _ _ _ _ _ l1 l2 (zipApart_new hlt1 hlt2) xs.toArray ys.toArray
  have hD5 : h'.objs.size = s.heap.objs.size + 5 := hsz'
  have hs5 : s.heap.objs.size ≤ h'.objs.size := by rw [hD5]; exact Nat.le_add_right _ _
  have nlt : ∀ {c n m : Nat}, c < n → n ≤ m → c ≠ m := fun h1 h2 => Nat.ne_of_lt (Nat.lt_of_lt_of_le h1 h2)
  refine compFresh hcell hkind fun D C h₁ m₀ hD hC old hacc hns₁ => ?_
  dsimp only at hD old hns₁ ⊢
  subst hD
  have hCle : h'.objs.size ≤ C := hC ▸ Nat.le_succ _
  have hDC : h'.objs.size ≠ C := hC ▸ Nat.ne_of_lt (Nat.lt_succ_self _)
  have hfp : ∀ c ∈ [s.heap.objs.size + 4, s.heap.objs.size + 2, s.heap.objs.size + 3, s.heap.objs.size, s.heap.objs.size + 1, l1, l2], c < s.heap.objs.size + 5 := by
    intro c hc
    simp only [List.mem_cons, List.not_mem_nil, or_false] at hc
    rcases hc with rfl | rfl | rfl | rfl | rfl | rfl | rfl
    · exact Nat.lt_succ_self _
    · exact Nat.lt_of_succ_lt (Nat.lt_of_succ_lt (Nat.lt_succ_self _))
    · exact Nat.lt_of_succ_lt (Nat.lt_succ_self _)
    · exact Nat.lt_add_of_pos_right (by decide)
    · exact Nat.add_lt_add_left (by decide) _
    · exact Nat.lt_of_lt_of_le hlt1 (Nat.le_add_right _ _)
    · exact Nat.lt_of_lt_of_le hlt2 (Nat.le_add_right _ _)
  have hwr : ∀ c o, s.heap.get? c = some o → c ∉ [s.heap.objs.size + 4, s.heap.objs.size + 3, s.heap.objs.size, s.heap.objs.size + 1] := by
    intro c o e hc
    have := Heap.lt_size e
    simp only [List.mem_cons, List.not_mem_nil, or_false] at hc
    rcases hc with rfl | rfl | rfl | rfl
    · exact absurd this (Nat.not_lt.mpr (Nat.le_add_right _ _))
    · exact absurd this (Nat.not_lt.mpr (Nat.le_add_right _ _))
    · exact absurd this (Nat.lt_irrefl _)
    · exact absurd this (Nat.not_lt.mpr (Nat.le_add_right _ _))
  have loop : codeAny (model prog w) A (.compLoop (.ListComp elt [⟨.Tuple [.Name a pa, .Name b pb] kk tp, iter, [], 0⟩] scope pos) 0 (.ref (s.heap.objs.size + 4)) (.ref h'.objs.size) (compEnvC scope cl C env))
      (compPost (model prog w) A E use Q (.ref h'.objs.size) C) { s with heap := h₁, toks := s.toks + 0 } := by
    refine loopZ (cenv := compEnvC scope cl C env) W (fun i x y => xs[i]? = some x ∧ ys[i]? = some y) (fun i v => ∃ x y, xs[i]? = some x ∧ ys[i]? = some y ∧ F x y v) ?_ hh (lookup_relabel_local ha) (lookup_relabel_local hb) hab (by simp [compEnvC, relabel, hkind])
      ?_ ?_ ?_ ?_ hacc hns₁ ?_ ?_ ?_
    · rintro i vals ⟨x, y, hx, hy, rfl⟩
      exact ⟨x, y, rfl, by simpa using hx, by simpa using hy⟩
    · exact hDC
    · exact fun hm => absurd (hfp _ hm) (by rw [hD5]; exact Nat.lt_irrefl _)
    · exact fun hm => absurd (hfp _ hm) (by rw [← hD5]; exact Nat.not_lt.mpr hCle)
    · exact W.frame _ _ _ ⟨hz, hTI, ⟨_, _, hTO⟩, hi1, hi2, hl1.at fun o e => hk' _ o e, hl2.at fun o e => hk' _ o e⟩ fun c _ o e => old c o e
    · rintro i x y s₂ m₂ ⟨hx, hy⟩ hn₂ hma hmb hk₂
      refine wpAny_mono (helt C i x y s₂ m₂ (fun _ _ => False) (Nat.le_trans hs5 hCle) hx hy hn₂ hma hmb fun c o e => ?_) (fun v s₃ h₃ => ⟨⟨x, y, hx, hy, h₃.1⟩, h₃.2⟩) fun _ _ e => e
      have hlt := Heap.lt_size e
      exact hk₂ c o (nlt hlt (Nat.le_trans hs5 hCle)) (hwr c o e) (nlt hlt hs5) (old c o (hk' c o e))
    · intro s' m' vs hn' hpl hlen hF hk₂ hg hdr hos
      refine fin _ _ s' m' vs hs5 (Nat.le_trans hs5 hCle) hDC hn' hpl (by simpa using hlen) hF (fun c o e => ?_) hg hdr hos
      have hlt := Heap.lt_size e
      exact hk₂ c o (nlt hlt (Nat.le_trans hs5 hCle)) (hwr c o e) (nlt hlt hs5) (old c o (hk' c o e))
    · exact Nat.le_trans (Nat.min_le_left _ _) (by rw [List.size_toArray]; exact hsz)
  exact codeAny_compStart_list loop (wpAny_pyIter_zip (old _ _ hz) loop)
theorem zipAssign {l1 l2 : Addr} {xs ys : List Value} {elt iter : Expr} {a b y : Str} {pa pb tp py : Pos} {kk : Nat} {scope : Scope} {cl : List (Str × Addr)} {pos : Pos} {m : Str → Option Value} {E : Value → Shared → Prop} {Q : Shared → Prop} (F : Value → Value → Value → Prop)
    (hh : A.handled = none) (hl1 : s.heap.IsList l1 xs.toArray) (hl2 : s.heap.IsList l2 ys.toArray) (hsz : xs.length ≤ sizeLine)
    (hcell : ∀ y ∈ scope.names, y.2 ≠ .cell) (hkind : scope.kind = .function) (ha : scope.names.lookup a = some .local) (hb : scope.names.lookup b = some .local) (hab : a ≠ b)
    (hy : env.kindOf y = some .local) (hp : (env.scope.kind == .class || (env.scope.kind == .module && env.locals != env.globals)) = false) (hn : s.heap.Ns env.locals m)
    (helt : ∀ C (i : Nat) x y s₃ m₃ E', s.heap.objs.size ≤ C → xs[i]? = some x → ys[i]? = some y → s₃.heap.Ns C m₃ → m₃ a = some x → m₃ b = some y → Keep s.heap s₃.heap →
      wpAny (model prog w) A (eval elt (compEnvC scope cl C env)) (fun v s₄ => F x y v ∧ Keeps s₃ s₄) E' s₃)
    (fin : ∀ D s' (vs : List Value), s.heap.objs.size ≤ D → s'.heap.Ns env.locals (fun z => if z = y then some (.ref D) else m z) → s'.heap.PlainList D vs.toArray → vs.length = min xs.length ys.length → (∀ (j : Nat) v, vs[j]? = some v → ∃ x y, xs[j]? = some x ∧ ys[j]? = some y ∧ F x y v) →
      (∀ b o, b ≠ env.locals → s.heap.get? b = some o → s'.heap.get? b = some o) → s'.gens = s.gens → s'.drawn = s.drawn → s'.os = s.os → Q s') :
    wpAny (model prog w) A (call (.type "zip") [.ref l1, .ref l2]) (fun xv s₁ => wpAny (model prog w) A (pyIter xv) (CompZ prog w A env scope cl a b pa pb tp kk elt iter pos (some (assign (.Name y py) env)) E (fun _ s' => Q s')) E s₁) E s := by
  refine zipBlock F hh hl1 hl2 hsz hcell hkind ha hb hab helt fun D C s' m' vs hDL hCL hDC hnC hpl hlen hF hk hg hdr hos => ?_
  have hlt := hn.lt
  have hLC : env.locals ≠ C := Nat.ne_of_lt (Nat.lt_of_lt_of_le hlt hCL)
  have hLD : env.locals ≠ D := Nat.ne_of_lt (Nat.lt_of_lt_of_le hlt hDL)
  show wpAny _ A (assign (.Name y py) env (.ref D)) _ _ _
  refine wpAny_assign_Name (wpAny_storeName_local hy (hn.at' fun o e => hk _ o e) (fun h₂ hn₂ hs₂ => ?_) hp)
  refine ⟨m', hnC.sameBut hs₂ (Ne.symm hLC), fun h₃ hs₃ => ?_⟩
  exact fin D { s' with heap := h₃, toks := s'.toks + 1 } vs hDL (hn₂.sameBut hs₃ hLC) ((hpl.at fun o e => hs₂.extBut _ o (Ne.symm hLD) e).at fun o e => hs₃.extBut _ o hDC e) hlen hF
    (fun c o hcL e => hs₃.extBut c o (Nat.ne_of_lt (Nat.lt_of_lt_of_le (Heap.lt_size e) hCL)) (hs₂.extBut c o hcL (hk c o e))) hg hdr hos
theorem zipValue {l1 l2 : Addr} {xs ys : List Value} {elt iter : Expr} {a b : Str} {pa pb tp : Pos} {kk : Nat} {scope : Scope} {cl : List (Str × Addr)} {pos : Pos} {E Q : Value → Shared → Prop} (F : Value → Value → Value → Prop)
    (hh : A.handled = none) (hl1 : s.heap.IsList l1 xs.toArray) (hl2 : s.heap.IsList l2 ys.toArray) (hsz : xs.length ≤ sizeLine)
    (hcell : ∀ y ∈ scope.names, y.2 ≠ .cell) (hkind : scope.kind = .function) (ha : scope.names.lookup a = some .local) (hb : scope.names.lookup b = some .local) (hab : a ≠ b)
    (helt : ∀ C (i : Nat) x y s₃ m₃ E', s.heap.objs.size ≤ C → xs[i]? = some x → ys[i]? = some y → s₃.heap.Ns C m₃ → m₃ a = some x → m₃ b = some y → Keep s.heap s₃.heap →
      wpAny (model prog w) A (eval elt (compEnvC scope cl C env)) (fun v s₄ => F x y v ∧ Keeps s₃ s₄) E' s₃)
    (fin : ∀ D s' (vs : List Value), s.heap.objs.size ≤ D → s'.heap.PlainList D vs.toArray → vs.length = min xs.length ys.length → (∀ (j : Nat) v, vs[j]? = some v → ∃ x y, xs[j]? = some x ∧ ys[j]? = some y ∧ F x y v) →
      Keep s.heap s'.heap → s'.gens = s.gens → s'.drawn = s.drawn → s'.os = s.os → Q (.ref D) s') :
    wpAny (model prog w) A (call (.type "zip") [.ref l1, .ref l2]) (fun xv s₁ => wpAny (model prog w) A (pyIter xv) (CompZ prog w A env scope cl a b pa pb tp kk elt iter pos none E Q) E s₁) E s := by
  refine zipBlock F hh hl1 hl2 hsz hcell hkind ha hb hab helt fun D C s' m' vs hDL hCL hDC hnC hpl hlen hF hk hg hdr hos => ?_
  exact ⟨m', hnC, fun h₃ hs₃ => fin D { s' with heap := h₃ } vs hDL (hpl.at fun o e => hs₃.extBut _ o hDC e) hlen hF (fun c o e => hs₃.extBut c o (Nat.ne_of_lt (Nat.lt_of_lt_of_le (Heap.lt_size e) hCL)) (hk c o e)) hg hdr hos⟩
def pairVal (F : Str → Str → Str) (x y v : Value) : Prop := ∃ p t q u r, x = .str p t ∧ y = .str q u ∧ v = .str (F p q) r
theorem strsPairs {F : Str → Str → Str} {xs ys vs : List Value} {ps qs : List Str} (hx : StrsAre xs ps) (hy : StrsAre ys qs) (hlen : vs.length = min xs.length ys.length)
    (h : ∀ (j : Nat) v, vs[j]? = some v → ∃ x y, xs[j]? = some x ∧ ys[j]? = some y ∧ pairVal F x y v) : StrsAre vs (List.zipWith F ps qs) := by
  refine strsOf (by rw [hlen, List.length_zipWith, hx.length, hy.length]) fun j v hj => ?_
  obtain ⟨x, y, e1, e2, p, t, q, u, r, rfl, rfl, rfl⟩ := h j v hj
  obtain ⟨p', t', e3, e4⟩ := strsAt hx e1
  obtain ⟨q', u', e5, e6⟩ := strsAt hy e2
  cases e3
  cases e5
  exact ⟨_, _, by rw [List.getElem?_zipWith, e4, e6], rfl⟩
end
end Mine
-- part KB
namespace Mine
theorem partKB {M : Model} {A : Around} {v : Value} {Q : Value → Shared → Prop} {E : Value → Shared → Prop} {s : Shared} (h : Q v s) : wpAny M A (pure v : Sem Value) Q E s := by
  w_top off
  first | (walk1; exact h) | exact wpAny_pure h
end Mine
open PySem PySem.W PyProof.Rows PySem.Calls
set_option maxRecDepth 100000
set_option maxHeartbeats 8000000
namespace Mine
/-- the row's roads, from the last to the first, as pairs -/
def backEs (w0 w1 w2 w3 w4 : Str) : List Str := [w4 ++ Str.ofString "=" ++ w3, w3 ++ Str.ofString "=" ++ w2, w2 ++ Str.ofString "=" ++ w1, w1 ++ Str.ofString "=" ++ w0]
theorem newsPick {h₀ h : Heap} {L : Addr} {a b c d e : Addr × Obj} (N : News h₀ L h [a, b, c, d, e]) : News h₀ L h [c, a, e] := fun p hp => N p (by
  simp only [List.mem_cons, List.not_mem_nil, or_false] at hp ⊢
  rcases hp with h | h | h
  · exact .inr (.inr (.inl h))
  · exact .inl h
  · exact .inr (.inr (.inr (.inr h))))
theorem backLen {w0 w1 w2 w3 w4 : Str} (l0 : w0.length ≤ 10) (l1 : w1.length ≤ 10) (l2 : w2.length ≤ 10) (l3 : w3.length ≤ 10) (l4 : w4.length ≤ 10) : ∀ e ∈ backEs w0 w1 w2 w3 w4, e.length ≤ 2000 := by
  intro e he
  have h1 : (Str.ofString "=").length = 1 := by decide
  simp only [backEs, List.mem_cons, List.not_mem_nil, or_false] at he
  rcases he with rfl | rfl | rfl | rfl <;> (simp only [Str.length_append]; omega)
open PySem.Spec PyProof.V in
/-- the way back from the row's end, as parse_keqv_list read the pairs -/
def backGo (D : List (PyData × PyData)) (w0 : Str) : Nat → List Str → Option (List Str)
  | 0, way => some way
  | n + 1, way => match way with
    | [] => none
    | x :: r => if (x == w0) = true then backGo D w0 n (x :: r) else match lookup (.str x) D with
      | some (.str y) => if y.length ≤ 10 then backGo D w0 n (y :: x :: r) else none
      | _ => none
open PySem.Spec PyProof.V in
theorem backGo_succ {D : List (PyData × PyData)} {w0 x : Str} {n : Nat} {r out : List Str} (h : backGo D w0 (n + 1) (x :: r) = some out) :
    (x == w0) = true ∧ backGo D w0 n (x :: r) = some out ∨ (x == w0) = false ∧ ∃ y, lookup (.str x) D = some (.str y) ∧ y.length ≤ 10 ∧ backGo D w0 n (y :: x :: r) = some out := by
  unfold backGo at h
  dsimp only at h
  split at h
  · exact .inl ⟨‹_›, h⟩
  · rename_i hx
    refine .inr ⟨by simpa using hx, ?_⟩
    split at h
    · rename_i y hy
      split at h
      · exact ⟨y, hy, ‹_›, h⟩
      · cases h
    · cases h
def BackJ (hb : Heap) (s₀ : Shared) (row a : Addr) (oD : Obj) (D : List (PyData × PyData)) (w0 : Str) (out : List Str) (I : Addr) (i : Nat) (s' : Shared) : Prop :=
  ∃ (l n : Nat) (m' : Str → Option Value) (us : List Value) (way : List Str), Fr hb hb.objs.size s'.heap m' ∧
    News hb hb.objs.size s'.heap [(I, rIter 4 i), (l, { cls := .type "list", data := .seq us.toArray n }), (a, oD)] ∧ l ≠ I ∧ a ≠ I ∧
    m' (Str.ofString "way") = some (.ref l) ∧ m' (Str.ofString "came") = some (.ref a) ∧ m' (Str.ofString "row") = some (.ref row) ∧
    StrsAre us way ∧ backGo D w0 (4 - i) way = some out ∧ way.length ≤ i + 1 ∧ (∀ x ∈ way, x.length ≤ 10) ∧ s'.gens = s₀.gens ∧ s'.drawn = s₀.drawn ∧ s'.os = s₀.os
local macro_rules | `(tactic| walk_at "exec For Name Call cons nil") => `(tactic| (k_here; refine Halt.of ?_))
local macro_rules | `(tactic| walk_at "call ref") => `(tactic| (k_here; refine Halt.of ?_))
local macro_rules | `(tactic| walk_at "eval Name") => `(tactic| (walk_at "mine name"))
local macro_rules | `(tactic| walk_at "exec Assign cons ListComp") => `(tactic| (k_here; refine Halt.of ?_))
local macro_rules | `(tactic| walk_at "call type:zip") => `(tactic| (k_here; refine Halt.of ?_))
local macro_rules | `(tactic| walk_at "binaryOp Add ref ref") => `(tactic| (walk_at "mine add"))
local macro_rules | `(tactic| walk_at "subscriptTail Name Constant ref int") => `(tactic| (k_here; (with_reducible show wpAny _ _ (subscriptTail _ _ (Value.ref _) (Value.int _ _)) _ _ _); k_dflt (refine' itemAt (k := 0) ?k1 ?k2 ?k3 ?_ ?k6; (case k1 => exact News.isList (by k_asm) (by k_mem)); (case k2 => exact rfl); (case k3 => decide); (case k6 => with_unfolding_all rfl); k_whole)))
section
variable {w : World} {dp un : Nat} {fr : Option (List Env)} {gd : Option (List Code)} {s : Shared} {mean : ExcName → Option Value} {mg mb : Str → Option Value}
theorem c_backward {R : Result → Shared → Prop} {row : Addr} {w0 w1 w2 w3 w4 : Str} {out : List Str} {t0 t1 t2 t3 t4 : Tok} (X : (hd.heap_39 w.params).In s.heap) (T : Top hd.view_39 (looseW hd.view_39 []) mean mg mb s.heap) (hroom : dp + 200 < recursionLimit)
    (hrow : s.heap.IsList row #[.str w0 t0, .str w1 t1, .str w2 t2, .str w3 t3, .str w4 t4])
    (hgo : backGo (keqvAt (backEs w0 w1 w2 w3 w4) (backEs w0 w1 w2 w3 w4).length) w0 4 [w4] = some out) (hes : ∀ e ∈ backEs w0 w1 w2 w3 w4, ∃ kv, keqvOf e = some kv) (hws : ∀ w ∈ [w0, w1, w2, w3, w4], w.length ≤ 10)
    (h : ∀ a s' (us' : List Value), Keep s.heap s'.heap → s.heap.get? a = none → s'.heap.PlainList a us'.toArray → StrsAre us' out → s'.gens = s.gens → s'.os = s.os → R (.ok (.ret (.ref a))) s') :
    codeAny (model PySem.Challenge.rw_kl0414_01.row.prog w) (Around.mk none dp fr gd un) (.call (.ref 81) ⟨[.ref row], []⟩) R s := by
  revert X; k_fill; intro X
  have l0 : w0.length ≤ 10 := hws _ (by simp)
  have l1 : w1.length ≤ 10 := hws _ (by simp)
  have l2 : w2.length ≤ 10 := hws _ (by simp)
  have l3 : w3.length ≤ 10 := hws _ (by simp)
  have l4 : w4.length ≤ 10 := hws _ (by simp)
  refine' callB (binds := [(Str.ofString "row", .ref row)]) ?k1 ?k2 ?k3 ?k6 ?k7 ?k9 ?kB ?_ ?c5 ?c2 ?c3 ?c4
  case k1 => exact X
  case k2 => exact T.nolimit
  case k3 => (try dsimp only); omega
  case k6 => k_is
  case k7 => k_is
  case k9 => exact rfl
  case kB => exact locs rfl
  case c5 => decide
  case c2 => exact rfl
  case c3 => exact rfl
  case c4 => exact rfl
  intro h₁ F
  have N : News s.heap s.heap.objs.size h₁ [] := News.nil
  try dsimp only
  k_steps
  refine Halt.go ?_
  refine assignComp_Z (cl := []) (by with_unfolding_all rfl) (by with_unfolding_all rfl) rfl (by decide) ?_
  k_steps
  with_reducible rename Fr _ _ _ _ => kF
  with_reducible rename News _ _ _ _ => kN
  refine Halt.go ?_
  have hrow' : s.heap.IsList row [Value.str w0 t0, .str w1 t1, .str w2 t2, .str w3 t3, .str w4 t4].toArray := hrow
  have hl2 := News.isList kN (.head _)
  refine' zipAssign (xs := [.str w0 t0, .str w1 t1, .str w2 t2, .str w3 t3, .str w4 t4]) (ys := [.str w1 t1, .str w2 t2, .str w3 t3, .str w4 t4]) (pairVal fun p q => q ++ Str.ofString "=" ++ p) ?z1 ?z2 ?z3 ?z4 ?z5 ?z6 ?z7 ?z8 ?z9 ?za ?zb ?zc ?_ ?_
  case z1 => rfl
  case z2 => exact stays_list kF.keep hrow'
  case z3 => exact hl2
  case z4 => exact Nat.le_of_ble_eq_true rfl
  case z5 => decide
  case z6 => rfl
  case z7 => rfl
  case z8 => rfl
  case z9 => decide
  case za => rfl
  case zb => rfl
  case zc => exact kF.ns
  · rintro C i x y s₃ m₃ E' hC hx hy hn hma hmb hk
    have hx' : ∃ p t, x = .str p t ∧ p.length ≤ 10 := by
      rcases i with _ | _ | _ | _ | _ | i <;> simp at hx <;> subst hx <;> exact ⟨_, _, rfl, by assumption⟩
    have hy' : ∃ p t, y = .str p t ∧ p.length ≤ 10 := by
      rcases i with _ | _ | _ | _ | i <;> simp at hy <;> subst hy <;> exact ⟨_, _, rfl, by assumption⟩
    obtain ⟨p, t, rfl, hpl⟩ := hx'
    obtain ⟨q, u, rfl, hql⟩ := hy'
    obtain ⟨FC, NC⟩ := compFrK kF kN hC hn hk
    clear kF kN hl2
    replace FC := Fr.known0 (Fr.known0 FC hma) ((if_neg (by decide)).trans hmb)
    k_steps
    · exact ⟨_, _, _, _, _, rfl, rfl, rfl⟩
    · exact ⟨_, _, rfl, fun _ _ e => e⟩
  · intro D s' vs hDL hns hpl hlen hF hk hg hdr hos
    have hST := strsPairs (F := fun p q => q ++ Str.ofString "=" ++ p) (.cons w0 t0 (.cons w1 t1 (.cons w2 t2 (.cons w3 t3 (.cons w4 t4 .nil))))) (.cons w1 t1 (.cons w2 t2 (.cons w3 t3 (.cons w4 t4 .nil)))) hlen hF
    have F₂ : Fr s.heap s.heap.objs.size s'.heap _ := ⟨hns, fun b o e => hk b o (Nat.ne_of_lt (Heap.lt_size e)) (kF.keep b o e), Nat.le_refl _⟩
    obtain ⟨nD, hpl⟩ := hpl
    have N₂ : News s.heap s.heap.objs.size s'.heap [_] := fun p hp => ⟨hk _ _ (kN p hp).2.1 (kN p hp).1, (kN p hp).2⟩
    have N₃ := News.more F₂ N₂ hpl (fun _ _ q => by cases q) (noneOf kF.keep hDL)
    clear hns hpl hF hk kF kN N₂ hl2 hlen
    dsimp only at hg hdr hos
    simp only [List.zipWith_cons_cons, List.zipWith_nil_right] at hST
    cases hST with | cons _ u0 hST =>
    cases hST with | cons _ u1 hST =>
    cases hST with | cons _ u2 hST =>
    cases hST with | cons _ u3 hST =>
    cases hST with | nil =>
    k_steps
    with_reducible rename Fr _ _ _ _ => kF
    with_reducible rename News _ _ _ _ => kN
    refine Halt.go ?_
    refine' wpAny_call (c_keqv (es := backEs w0 w1 w2 w3 w4) (Frag.In.keeps X kF.keep) (Top.keeps T kF.keep) ?r1 (News.isList kN (.head _)) ?r2 ?r3 ?r4 ?_)
    case r1 => (try dsimp only [Around.deeper]); omega
    case r2 => exact .cons _ _ (.cons _ _ (.cons _ _ (.cons _ _ .nil)))
    case r3 => exact Nat.le_of_ble_eq_true rfl
    case r4 => exact fun e he => ⟨backLen l0 l1 l2 l3 l4 e he, hes e he⟩
    intro a s₅ o kvs hK hn hget hsys hdict hflat hg5 hdr5 hos5
    have F₅ := kF.kept hK
    have N₅ := newsAdd kF kN hK hget hn
    clear kF kN
    dsimp only at hg5 hdr5 hos5
    k_steps
    refine Halt.go ?_
    refine' For_J ?_
    k_steps
    with_reducible rename IsRange _ _ _ _ _ _ _ _ => hR
    with_reducible rename Fr _ _ _ _ => kF
    with_reducible rename News _ _ _ _ => kN
    refine forRange (n := 4) (BackJ s.heap s row a o (keqvAt (backEs w0 w1 w2 w3 w4) (backEs w0 w1 w2 w3 w4).length) w0 out) rfl hR rfl rfl ?_ ?_ ?_ ?_
    · have NP := News.push kF kN (rIter 4 0) rfl
      refine ⟨_, 0, _, [.str w4 t4], _, kF.push _, fun p hp => NP p ?_, Nat.ne_of_lt (Heap.lt_size (kN _ (.head _)).1), Nat.ne_of_lt (Heap.lt_size (kN _ (.tail _ (.head _))).1), rfl, rfl, rfl, .cons w4 t4 .nil, hgo, Nat.le_refl _, ?_, hg5.trans hg, hdr5.trans hdr, hos5.trans hos⟩
      · simp only [List.mem_cons, List.not_mem_nil, or_false] at hp ⊢
        rcases hp with h | h | h
        · exact .inl h
        · exact .inr (.inl h)
        · exact .inr (.inr (.inl h))
      · intro x hx
        rw [List.mem_singleton.mp hx]
        exact l4
    · rintro I i s' ⟨l, n, m', us, way, F', N', _⟩
      exact (N' _ (List.Mem.head _)).1
    · clear kN kF hR hget hn hK
      rintro I i s' t h' tk' hi ⟨l, n, m', us, way, F', N', hlI, haI, hm1, hm2, hm3, hST, hgo', hwl, hw10, hg', hdr', hos'⟩ hst hk
      obtain ⟨F₁, N₁⟩ := moveI F' N' (by simp [hlI, haI]) hst hk
      clear F' N' hst hk
      have e4 : 4 - i = (4 - (i + 1)) + 1 := by omega
      rw [e4] at hgo'
      replace F₁ := Fr.known0 (Fr.known0 (Fr.known0 F₁ hm1) ((if_neg (by decide)).trans hm2)) ((if_neg (by decide)).trans ((if_neg (by decide)).trans hm3))
      cases hST with
      | nil => cases hgo'
      | cons x tx r =>
      have hul := r.length
      rw [List.length_cons] at hwl
      have hx10 := hw10 x (.head _)
      rcases backGo_succ hgo' with ⟨hxw, hgo2⟩ | ⟨hxw, y, hlook, hy10, hgo2⟩
      · k_steps
        all_goals first
          | (exfalso; have hq : (x != w0) = true := ‹_›; rw [bne, hxw] at hq; cases hq; done)
          | exact .inl rfl
          | (refine' ⟨l, n, _, _, _, ‹Fr _ _ _ _›, ‹News _ _ _ _›, hlI, haI, ?m1, ?m2, ?m3, .cons x tx r, hgo2, ?m4, hw10, hg', hdr', hos'⟩
             case m1 => exact rfl
             case m2 => exact rfl
             case m3 => exact rfl
             case m4 => rw [List.length_cons]; omega)
      · k_steps
        all_goals first
          | (exfalso; have hq : (x != w0) = false := ‹_›; rw [bne, hxw] at hq; cases hq; done)
          | exact .inl rfl
          | (with_reducible rename News _ _ _ _ => kN
             refine' ⟨_, 0, _, _, _, ‹Fr _ _ _ _›, newsPick kN, ?m5, haI, ?m1, ?m2, ?m3, .cons y _ (.cons x tx r), hgo2, ?m4, ?m6, hg', hdr', hos'⟩
             case m1 => exact rfl
             case m5 => k_ne
             case m2 => exact rfl
             case m3 => exact rfl
             case m4 => rw [List.length_cons, List.length_cons]; omega
             case m6 =>
               intro z hz
               rcases List.mem_cons.mp hz with rfl | hz
               · exact hy10
               · exact hw10 z hz)
    · clear kN kF hR hget hn hK
      rintro I s' h' tk' ⟨l, n, m', us, way, F', N', hlI, haI, hm1, hm2, hm3, hST, hgo', hwl, hw10, hg', hdr', hos'⟩ hk
      obtain ⟨F₁, N₁⟩ := moveOff F' N' (by simp [hlI, haI]) hk
      clear F' N' hk
      replace F₁ := Fr.known0 F₁ hm1
      cases hgo'
      k_steps
      exact h _ _ _ F₁.keep (N₁ _ (.head _)).2.2 ⟨n, (N₁ _ (.head _)).1⟩ hST hg' hos'
end
end Mine
-- part KN
namespace Mine
theorem partKN {M : Model} {A : Around} {v : Value} {Q : Value → Shared → Prop} {E : Value → Shared → Prop} {s : Shared} (h : Q v s) : wpAny M A (pure v : Sem Value) Q E s := by
  w_top off
  first | (walk1; exact h) | exact wpAny_pure h
end Mine
open PySem PySem.W PyProof.Rows PySem.Calls
set_option maxRecDepth 100000
set_option maxHeartbeats 2000000
namespace Mine
inductive All2 {α β : Type} (P : α → β → Prop) : List α → List β → Prop
  | nil : All2 P [] []
  | cons {a b as bs} : P a b → All2 P as bs → All2 P (a :: as) (b :: bs)
theorem All2.append {α β : Type} {P : α → β → Prop} : ∀ {as : List α} {bs : List β} {cs ds}, All2 P as bs → All2 P cs ds → All2 P (as ++ cs) (bs ++ ds)
  | _, _, _, _, .nil, y => y
  | _, _, _, _, .cons h r, y => .cons h (r.append y)
theorem All2.imp {α β : Type} {P Q : α → β → Prop} (h : ∀ a b, P a b → Q a b) : ∀ {as : List α} {bs : List β}, All2 P as bs → All2 Q as bs
  | _, _, .nil => .nil
  | _, _, .cons x r => .cons (h _ _ x) (r.imp h)
theorem All2.length {α β : Type} {P : α → β → Prop} : ∀ {as : List α} {bs : List β}, All2 P as bs → as.length = bs.length
  | _, _, .nil => rfl
  | _, _, .cons _ r => congrArg (· + 1) r.length
/-- every list but D stays as it is -/
def KeepL (D : Addr) (h h' : Heap) : Prop := ∀ b o, (o.cls = .type "list" ∧ ∃ us n, o.data = .seq us n) → b ≠ D → h.get? b = some o → h'.get? b = some o
theorem KeepL.trans {D : Addr} {h h' h'' : Heap} (x : KeepL D h h') (y : KeepL D h' h'') : KeepL D h h'' := fun b o hc hb e => y b o hc hb (x b o hc hb e)

theorem nsNotList {h : Heap} {C : Addr} {m : Str → Option Value} {o : Obj} (hn : h.Ns C m) (e : h.get? C = some o) (hd : ∃ us n, o.data = .seq us n) : False := by
  obtain ⟨oC, es, ep, hoC, hdC, _⟩ := hn
  obtain ⟨us, n, hd⟩ := hd
  rw [hoC] at e
  cases e
  rw [hdC] at hd
  cases hd
theorem iterNotList {h : Heap} {I l : Addr} {j : Nat} {o : Obj} (hi : h.IsListIter I l j) (e : h.get? I = some o) (hc : o.cls = .type "list") : False := by
  obtain ⟨oI, hoI, hcI, _⟩ := hi
  rw [hoI] at e
  cases e
  rw [hcI] at hc
  exact absurd (Value.type.inj hc) (by decide)
theorem turn2_0 (elt t0 i0 t1 i1 : Expr) (scope : Scope) (pos : Pos) (it acc : Value) (env : Env) :
    compTurn (.ListComp elt [⟨t0, i0, [], 0⟩, ⟨t1, i1, [], 0⟩] scope pos) 0 it acc env = (standAt i0.pos >>= fun _ => pyNext it >>= fun r => match r with
      | none => pure (.done .next)
      | some v => letOwnedTupleGo t0 it v >>= fun _ => assign t0 env v >>= fun _ =>
        eval i1 env >>= fun x => standAt i1.pos >>= fun _ => foldedSetIterable i1 env x >>= fun x => holding [x] (pyIter x) >>= fun it' => runOwn (.compStart (.ListComp elt [⟨t0, i0, [], 0⟩, ⟨t1, i1, [], 0⟩] scope pos) 1 it' acc env) env >>= fun _ =>
          again (.compLoop (.ListComp elt [⟨t0, i0, [], 0⟩, ⟨t1, i1, [], 0⟩] scope pos) 0 it acc env)) := by rfl
theorem turn2_1 (elt t0 i0 t1 i1 : Expr) (scope : Scope) (pos : Pos) (it acc : Value) (env : Env) :
    compTurn (.ListComp elt [⟨t0, i0, [], 0⟩, ⟨t1, i1, [], 0⟩] scope pos) 1 it acc env = (standAt i1.pos >>= fun _ => pyNext it >>= fun r => match r with
      | none => pure (.done .next)
      | some v => letOwnedTupleGo t1 it v >>= fun _ => assign t1 env v >>= fun _ =>
        (eval elt env >>= fun x => call (.builtin "list.append") [acc, x] >>= fun _ => pure ()) >>= fun _ =>
          again (.compLoop (.ListComp elt [⟨t0, i0, [], 0⟩, ⟨t1, i1, [], 0⟩] scope pos) 1 it acc env)) := by rfl
section
variable {prog : Program} {w : World} {A : Around} {E : Value → Shared → Prop} {R : Result → Shared → Prop} {s : Shared}
/-- A clause's loop is begun: its iterator's own iterator, or the iterator itself, is walked. -/
theorem startOf {elt : Expr} {gs : List Comprehension} {scope : Scope} {pos : Pos} {d : Nat} {g : Comprehension} {it acc : Value} {env : Env} (clause : gs[d]? = some g) (sync : g.is_async = 0)
    (same : codeAny (model prog w) A (.compLoop (.ListComp elt gs scope pos) d it acc env) R s)
    (twice : wpAny (model prog w) A (pyIter it) (fun i s' => codeAny (model prog w) A (.compLoop (.ListComp elt gs scope pos) d i acc env) R s') (notedBy (model prog w) A env fun x s' => R (.error x) s') s)
    (calm : ∀ i, (Code.compLoop (.ListComp elt gs scope pos) d i acc env).quiet = true := by intro _; rfl) :
    codeAny (model prog w) A (.compStart (.ListComp elt gs scope pos) d it acc env) R s := by
  have tree : wpAny (model prog w) A (compStart (.ListComp elt gs scope pos) d it acc env) (fun fin s' => match fin with
      | .done f => R (.ok f) s'
      | .again c => c.quiet = true ∧ codeAny (model prog w) A c R s') (notedBy (model prog w) A env fun x s' => R (.error x) s') s := by
    unfold compStart
    rw [show (clausesOf (.ListComp elt gs scope pos))[d]? = some g from clause]
    simp only [Option.elim_some, sync, bne_self_eq_false, Bool.false_eq_true, if_false]
    refine wpAny_bind (wpAny_askSetting ?_)
    refine wpAny_ite ?_
    split
    · exact wpAny_bind (wpAny_pure (wpAny_pure ⟨calm it, same⟩))
    · exact wpAny_bind (wpAny_rule (wpAny_bind (wpAny_standAt (wpAny_bind (wpAny_mono twice (fun i s' q => wpAny_pure ⟨calm i, q⟩) fun _ _ q => q)))))
  exact codeAny_of_tree (c := .compStart (.ListComp elt gs scope pos) d it acc env) (wpAny_notedAt (pos := theWindowsPlace) tree)
/-- the inner loop's turns -/
theorem loopIn {elt t0 i0 i1 : Expr} {x : Str} {px : Pos} {scope : Scope} {pos : Pos} {I l D : Addr} {us ys : List Value} {cenv : Env} {m : Str → Option Value} (hh : A.handled = none) (J : Heap → Value → Value → Prop) (M : (Str → Option Value) → Prop)
    (hM : ∀ m v, M m → M (fun z => if z = x then some v else m z)) (hJ : ∀ h h' u y, J h u y → KeepL D h h' → J h' u y)
    (hx : cenv.kindOf x = some .local) (hp : (cenv.scope.kind == .class || (cenv.scope.kind == .module && cenv.locals != cenv.globals)) = false)
    (hDC : D ≠ cenv.locals) (hID : I ≠ D) (hIC : I ≠ cenv.locals) (hlD : l ≠ D) (hlC : l ≠ cenv.locals) (hlI : l ≠ I)
    (hit : s.heap.IsListIter I l 0) (hl : s.heap.IsList l us.toArray) (hacc : s.heap.PlainList D ys.toArray) (hn : s.heap.Ns cenv.locals m) (hm : M m)
    (helt : ∀ u s₂ m₂ vs, u ∈ us → s₂.heap.Ns cenv.locals m₂ → M m₂ → m₂ x = some u → s₂.heap.PlainList D vs → (∀ c o, c ≠ cenv.locals → c ≠ I → c ≠ D → s.heap.get? c = some o → s₂.heap.get? c = some o) →
      wpAny (model prog w) A (eval elt cenv) (fun y s₃ => J s₃.heap u y ∧ Keeps s₂ s₃) (fun _ _ => False) s₂)
    (hR : ∀ h' tk m' zs, h'.Ns cenv.locals m' → M m' → h'.PlainList D (ys ++ zs).toArray → All2 (J h') us zs → (∀ c o, c ≠ cenv.locals → c ≠ I → c ≠ D → s.heap.get? c = some o → h'.get? c = some o) → KeepL D s.heap h' → R (.ok .next) { s with heap := h', toks := tk })
    (hsz : ys.length + us.length ≤ sizeLine) :
    codeAny (model prog w) A (.compLoop (.ListComp elt [⟨t0, i0, [], 0⟩, ⟨.Name x px, i1, [], 0⟩] scope pos) 1 (.ref I) (.ref D) cenv) R s := by
  have W := Walks.list (prog := prog) (w := w) (A := A) hh I l hlI us.toArray
  refine codeAny_loop rfl
    (fun k s' => ∃ h' tk m' zs, s' = { s with heap := h', toks := tk } ∧ h'.IsListIter I l zs.length ∧ h'.IsList l us.toArray ∧ h'.PlainList D (ys ++ zs).toArray ∧ h'.Ns cenv.locals m' ∧ M m' ∧ All2 (J h') (us.take zs.length) zs ∧ zs.length ≤ us.length ∧ k = us.length + 1 - zs.length ∧
      (∀ c o, c ≠ cenv.locals → c ≠ I → c ≠ D → s.heap.get? c = some o → h'.get? c = some o) ∧ KeepL D s.heap h') (fun k s' hI => ?_) (us.length + 1)
    ⟨s.heap, s.toks, m, [], rfl, hit, hl, by simpa using hacc, hn, hm, by simpa using All2.nil, Nat.zero_le _, rfl, fun _ _ _ _ _ e => e, fun _ _ _ _ e => e⟩
  show wpAny _ A ((compTurn (.ListComp elt [⟨t0, i0, [], 0⟩, ⟨.Name x px, i1, [], 0⟩] scope pos) 1 (.ref I) (.ref D) cenv).onRaise (fun x => do noteFrame x cenv; theTreesLotGoes x)) _ _ s'
  refine wpAny_noted ?_
  rw [turn2_1]
  obtain ⟨h', tk, m', zs, rfl, hit', hl', hacc', hn', hm', hA, hzl, rfl, hk, hkl⟩ := hI
  refine wpAny_bind (wpAny_standAt (wpAny_bind ?_))
  by_cases hlt : zs.length < us.length
  · refine W.item zs.length _ _ _ (by simpa using hlt) ⟨hit', hl'⟩ fun u h₁ tk₁ hu hst₁ hk₁ => ?_
    obtain ⟨hit₁, hl₁⟩ := hst₁
    have hu' : us[zs.length]? = some u := by simpa using hu
    have hn₁ : h₁.Ns cenv.locals m' := hn'.at' fun o e => hk₁ _ o (by simpa using Ne.symm hIC) e
    refine wpAny_bind (wpAny_of_eq rfl ?_)
    refine wpAny_bind (wpAny_assign_Name (wpAny_storeName_local hx hn₁ (fun h₂ hn₂ hs₂ => ?_) hp))
    have up₂ : ∀ c o, c ≠ cenv.locals → c ≠ I → h'.get? c = some o → h₂.get? c = some o := fun c o h1 h2 e => hs₂.extBut c o h1 (hk₁ c o (by simpa using h2) e)
    have hacc₂ : h₂.PlainList D (ys ++ zs).toArray := hacc'.at fun o e => up₂ D o hDC (Ne.symm hID) e
    have kl₂ : KeepL D h' h₂ := fun c o hc hcD e => up₂ c o (fun q => nsNotList hn' (q ▸ e) hc.2) (fun q => iterNotList hit' (q ▸ e) hc.1) e
    refine wpAny_bind (wpAny_bind (wpAny_mono (helt u { s with heap := h₂, toks := tk₁ + 1 } _ _ (List.mem_of_getElem? hu') hn₂ (hM _ _ hm') (by simp) hacc₂ fun c o h1 h2 h3 e => up₂ c o h1 h2 (hk c o h1 h2 h3 e)) (fun y s₃ h₃ => ?_) fun _ _ e => e.elim))
    obtain ⟨hy, h₃, tk₃, rfl, hk₃⟩ := h₃
    have hsy : (ys ++ zs).toArray.size ≤ sizeLine := by rw [List.size_toArray, List.length_append]; omega
    refine wpAny_bind (wpAny_list_append_plain (hsz := hsy) (hacc₂.at fun o e => hk₃ _ o e) fun h₄ hl₄ hs₄ => wpAny_pure (wpAny_pure ?_))
    have hlen : (zs ++ [y]).length = zs.length + 1 := by rw [List.length_append, List.length_singleton]
    have kl₄ : KeepL D h₃ h₄ := fun c o _ hcD e => hs₄.extBut c o hcD e
    have kl₃ : KeepL D h₂ h₃ := fun c o _ _ e => hk₃ c o e
    have kl : KeepL D h' h₄ := (kl₂.trans kl₃).trans kl₄
    have hit₂ : h₂.IsListIter I l (zs.length + 1) := hit₁.at fun o e => hs₂.extBut I o hIC e
    refine ⟨rfl, us.length + 1 - (zs.length + 1), by omega, h₄, tk₃, _, zs ++ [y], rfl, ?_, ?_, ?_, (hn₂.keeps hk₃).sameBut hs₄ (Ne.symm hDC), hM _ _ hm', ?_, (by rw [hlen]; exact hlt), (by rw [hlen]), fun c o h1 h2 h3 e => hs₄.extBut c o h3 (hk₃ c o (up₂ c o h1 h2 (hk c o h1 h2 h3 e))), hkl.trans kl⟩
    · rw [hlen]
      exact hit₂.at fun o e => hs₄.extBut I o hID (hk₃ _ o e)
    · exact ((hl₁.at fun o e => hs₂.extBut l o hlC e).at fun o e => hk₃ _ o e).at fun o e => hs₄.extBut l o hlD e
    · rw [← List.append_assoc]
      rw [List.push_toArray] at hl₄
      exact hl₄
    · rw [hlen, List.take_add_one, hu']
      refine (hA.imp fun a b h => hJ _ _ _ _ h kl).append (.cons (hJ _ _ _ _ hy kl₄) .nil)
  · have hin : zs.length = us.length := by omega
    refine W.done _ _ _ ⟨by rw [List.size_toArray, ← hin]; exact hit', hl'⟩ fun h₁ tk₁ hk₁ => wpAny_pure ?_
    have hk₁' : ∀ c o, c ≠ I → h'.get? c = some o → h₁.get? c = some o := fun c o hc e => hk₁ c o (by simpa using hc) e
    have kl₁ : KeepL D h' h₁ := fun c o hc hcD e => hk₁' c o (fun q => iterNotList hit' (q ▸ e) hc.1) e
    rw [hin, List.take_length] at hA
    exact hR h₁ tk₁ m' zs (hn'.at' fun o e => hk₁' _ o (Ne.symm hIC) e) hm' (hacc'.at fun o e => hk₁' _ o (Ne.symm hID) e) (hA.imp fun a b h => hJ _ _ _ _ h kl₁) (fun c o h1 h2 h3 e => hk₁' c o h2 (hk c o h1 h2 h3 e)) (hkl.trans kl₁)
end
def pairsTo (inn : Nat → List Value) : Nat → List (Nat × Value)
  | 0 => []
  | i + 1 => pairsTo inn i ++ (inn i).map fun u => (i, u)
theorem All2.mapL {α β γ : Type} {P : α → β → Prop} {Q : γ → β → Prop} {f : α → γ} (h : ∀ a b, P a b → Q (f a) b) : ∀ {as : List α} {bs : List β}, All2 P as bs → All2 Q (as.map f) bs
  | _, _, .nil => .nil
  | _, _, .cons x r => .cons (h _ _ x) (r.mapL h)
section
variable {prog : Program} {w : World} {A : Around} {E : Value → Shared → Prop} {R : Result → Shared → Prop} {s : Shared}
/-- the outer loop's turns -/
theorem loopOut {elt i0 i1 : Expr} {x0 x1 : Str} {p0 p1 : Pos} {scope : Scope} {pos : Pos} {I0 l0 D : Addr} {vs : List Value} {cenv : Env} {m : Str → Option Value} (hh : A.handled = none) (inn : Nat → List Value) (J : Nat → Heap → Value → Value → Prop)
    (hJ : ∀ i h h' u y, J i h u y → KeepL D h h' → J i h' u y) (hx0 : cenv.kindOf x0 = some .local) (hx1 : cenv.kindOf x1 = some .local) (h01 : x0 ≠ x1)
    (hp : (cenv.scope.kind == .class || (cenv.scope.kind == .module && cenv.locals != cenv.globals)) = false)
    (hDC : D ≠ cenv.locals) (hID : I0 ≠ D) (hIC : I0 ≠ cenv.locals) (hlD : l0 ≠ D) (hlC : l0 ≠ cenv.locals) (hlI : l0 ≠ I0)
    (hit : s.heap.IsListIter I0 l0 0) (hl : s.heap.IsList l0 vs.toArray) (hacc : s.heap.PlainList D #[]) (hn : s.heap.Ns cenv.locals m) (hs : ∀ x, foldedSetIterable i1 cenv x = pure x)
    (hin : ∀ i v s₂ m₂, vs[i]? = some v → s₂.heap.Ns cenv.locals m₂ → m₂ x0 = some v → (∀ c o, c ≠ cenv.locals → c ≠ I0 → c ≠ D → s.heap.get? c = some o → s₂.heap.get? c = some o) → KeepL D s.heap s₂.heap →
      wpAny (model prog w) A (eval i1 cenv) (fun x s₃ => (∃ l, x = .ref l ∧ s₃.heap.IsList l (inn i).toArray ∧ l ≠ D) ∧ Keeps s₂ s₃) (fun _ _ => False) s₂)
    (helt : ∀ i v u s₂ m₂ ys, vs[i]? = some v → u ∈ inn i → s₂.heap.Ns cenv.locals m₂ → m₂ x0 = some v → m₂ x1 = some u → s₂.heap.PlainList D ys → (∀ c o, c ≠ cenv.locals → c ≠ I0 → c ≠ D → s.heap.get? c = some o → s₂.heap.get? c = some o) → KeepL D s.heap s₂.heap →
      wpAny (model prog w) A (eval elt cenv) (fun y s₃ => J i s₃.heap u y ∧ Keeps s₂ s₃) (fun _ _ => False) s₂)
    (hR : ∀ h' tk m' (zs : List Value), h'.Ns cenv.locals m' → h'.PlainList D zs.toArray → All2 (fun p y => J p.1 h' p.2 y) (pairsTo inn vs.length) zs → (∀ c o, c ≠ cenv.locals → c ≠ I0 → c ≠ D → s.heap.get? c = some o → h'.get? c = some o) → KeepL D s.heap h' →
      R (.ok .next) { s with heap := h', toks := tk })
    (hsz : ∀ i, i < vs.length → (pairsTo inn i).length + (inn i).length ≤ sizeLine) :
    codeAny (model prog w) A (.compLoop (.ListComp elt [⟨.Name x0 p0, i0, [], 0⟩, ⟨.Name x1 p1, i1, [], 0⟩] scope pos) 0 (.ref I0) (.ref D) cenv) R s := by
  have W := Walks.list (prog := prog) (w := w) (A := A) hh I0 l0 hlI vs.toArray
  refine codeAny_loop rfl
    (fun k s' => ∃ i h' tk m' zs, s' = { s with heap := h', toks := tk } ∧ h'.IsListIter I0 l0 i ∧ h'.IsList l0 vs.toArray ∧ h'.PlainList D (List.toArray zs) ∧ h'.Ns cenv.locals m' ∧ All2 (fun p y => J p.1 h' p.2 y) (pairsTo inn i) zs ∧ i ≤ vs.length ∧ k = vs.length + 1 - i ∧
      (∀ c o, c ≠ cenv.locals → c ≠ I0 → c ≠ D → s.heap.get? c = some o → h'.get? c = some o) ∧ KeepL D s.heap h') (fun k s' hI => ?_) (vs.length + 1)
    ⟨0, s.heap, s.toks, m, [], rfl, hit, hl, by simpa using hacc, hn, .nil, Nat.zero_le _, rfl, fun _ _ _ _ _ e => e, fun _ _ _ _ e => e⟩
  show wpAny _ A ((compTurn (.ListComp elt [⟨.Name x0 p0, i0, [], 0⟩, ⟨.Name x1 p1, i1, [], 0⟩] scope pos) 0 (.ref I0) (.ref D) cenv).onRaise (fun x => do noteFrame x cenv; theTreesLotGoes x)) _ _ s'
  refine wpAny_noted ?_
  rw [turn2_0]
  obtain ⟨i, h', tk, m', zs, rfl, hit', hl', hacc', hn', hA, hil, rfl, hk, hkl⟩ := hI
  refine wpAny_bind (wpAny_standAt (wpAny_bind ?_))
  by_cases hlt : i < vs.length
  · refine W.item i _ _ _ (by simpa using hlt) ⟨hit', hl'⟩ fun v h₁ tk₁ hv hst₁ hk₁ => ?_
    obtain ⟨hit₁, hl₁⟩ := hst₁
    have hv' : vs[i]? = some v := by simpa using hv
    have hn₁ : h₁.Ns cenv.locals m' := hn'.at' fun o e => hk₁ _ o (by simpa using Ne.symm hIC) e
    refine wpAny_bind (wpAny_of_eq rfl ?_)
    refine wpAny_bind (wpAny_assign_Name (wpAny_storeName_local hx0 hn₁ (fun h₂ hn₂ hs₂ => ?_) hp))
    have up₂ : ∀ c o, c ≠ cenv.locals → c ≠ I0 → h'.get? c = some o → h₂.get? c = some o := fun c o h1 h2 e => hs₂.extBut c o h1 (hk₁ c o (by simpa using h2) e)
    have hacc₂ : h₂.PlainList D zs.toArray := hacc'.at fun o e => up₂ D o hDC (Ne.symm hID) e
    have kl₂ : KeepL D h' h₂ := fun c o hc hcD e => up₂ c o (fun q => nsNotList hn' (q ▸ e) hc.2) (fun q => iterNotList hit' (q ▸ e) hc.1) e
    have hit₂ : h₂.IsListIter I0 l0 (i + 1) := hit₁.at fun o e => hs₂.extBut I0 o hIC e
    have hl₂ : h₂.IsList l0 vs.toArray := hl₁.at fun o e => hs₂.extBut l0 o hlC e
    refine wpAny_bind (wpAny_mono (hin i v { s with heap := h₂, toks := tk₁ + 1 } _ hv' hn₂ (by simp) (fun c o h1 h2 h3 e => up₂ c o h1 h2 (hk c o h1 h2 h3 e)) (hkl.trans kl₂)) (fun x s₃ h₃ => ?_) fun _ _ e => e.elim)
    obtain ⟨⟨l, rfl, hli, hlD'⟩, h₃, tk₃, rfl, hk₃⟩ := h₃
    dsimp only at hli
    have hn₃ := hn₂.keeps hk₃
    have hlC' : l ≠ cenv.locals := fun q => by
      obtain ⟨o, ho, hc, n, hd⟩ := hli
      exact nsNotList hn₃ (q ▸ ho) ⟨_, n, hd⟩
    have hllt : l < h₃.objs.size := by obtain ⟨o, ho, _⟩ := hli; exact Heap.lt_size ho
    have hCle : cenv.locals < h₃.objs.size := hn₃.lt
    have hDlt : D < h₃.objs.size := by obtain ⟨n, e⟩ := hacc₂; exact Heap.lt_size (hk₃ _ _ e)
    refine wpAny_bind (wpAny_standAt (wpAny_bind (wpAny_of_eq (hs _) (wpAny_bind (wpAny_holding ?_)))))
    refine wpAny_pyIter_list hli ?_
    refine wpAny_bind (wpAny_runOwn ?_)
    rw [Around.mark_none]
    have hnx : (h₃.push { cls := .type "list_iterator", data := .fields #[.ref l, .int 0 0] }).Ns cenv.locals (fun z => if z = x0 then some v else m' z) := hn₃.keeps fun _ _ e => Heap.get?_push_of_some _ e
    have hix : (h₃.push { cls := .type "list_iterator", data := .fields #[.ref l, .int 0 0] }).IsListIter h₃.objs.size l 0 := ⟨_, Heap.get?_push_size _ rfl, rfl, rfl⟩
    have hlx : (h₃.push { cls := .type "list_iterator", data := .fields #[.ref l, .int 0 0] }).IsList l (inn i).toArray := hli.at fun o e => Heap.get?_push_of_some _ e
    have hax : (h₃.push { cls := .type "list_iterator", data := .fields #[.ref l, .int 0 0] }).PlainList D zs.toArray := hacc₂.at fun o e => Heap.get?_push_of_some _ (hk₃ _ o e)
    have klx : KeepL D h' (h₃.push { cls := .type "list_iterator", data := .fields #[.ref l, .int 0 0] }) := kl₂.trans fun c o _ _ e => Heap.get?_push_of_some _ (hk₃ c o e)
    have upx : ∀ c o, c ≠ cenv.locals → c ≠ I0 → h'.get? c = some o → c ≠ h₃.objs.size ∧ (h₃.push { cls := .type "list_iterator", data := .fields #[.ref l, .int 0 0] }).get? c = some o := fun c o h1 h2 e =>
      ⟨Nat.ne_of_lt (Heap.lt_size (hk₃ c o (up₂ c o h1 h2 e))), Heap.get?_push_of_some _ (hk₃ c o (up₂ c o h1 h2 e))⟩
    have hzl : zs.length = (pairsTo inn i).length := hA.length.symm
    have loop : codeAny (model prog w) A (.compLoop (.ListComp elt [⟨.Name x0 p0, i0, [], 0⟩, ⟨.Name x1 p1, i1, [], 0⟩] scope pos) 1 (.ref h₃.objs.size) (.ref D) cenv)
        (fun r s' => match r with
          | .ok f => wpAny (model prog w) A (again (.compLoop (.ListComp elt [⟨.Name x0 p0, i0, [], 0⟩, ⟨.Name x1 p1, i1, [], 0⟩] scope pos) 0 (.ref I0) (.ref D) cenv))
              (fun fin s' => match fin with
                | .done f => R (.ok f) s'
                | .again c' => c' = .compLoop (.ListComp elt [⟨.Name x0 p0, i0, [], 0⟩, ⟨.Name x1 p1, i1, [], 0⟩] scope pos) 0 (.ref I0) (.ref D) cenv ∧ ∃ k', k' < vs.length + 1 - i ∧
                  ∃ i h' tk m' zs, s' = { s with heap := h', toks := tk } ∧ h'.IsListIter I0 l0 i ∧ h'.IsList l0 vs.toArray ∧ h'.PlainList D (List.toArray zs) ∧ h'.Ns cenv.locals m' ∧ All2 (fun p y => J p.1 h' p.2 y) (pairsTo inn i) zs ∧ i ≤ vs.length ∧ k' = vs.length + 1 - i ∧
                    (∀ c o, c ≠ cenv.locals → c ≠ I0 → c ≠ D → s.heap.get? c = some o → h'.get? c = some o) ∧ KeepL D s.heap h')
              (notedBy (model prog w) A cenv fun e s' => R (.error e) s') s'
          | .error e => cameBackBy (model prog w) A cenv (notedBy (model prog w) A cenv fun e s' => R (.error e) s') e s')
        { s with heap := h₃.push { cls := .type "list_iterator", data := .fields #[.ref l, .int 0 0] }, toks := tk₃ } := by
      refine loopIn hh (fun h u y => J i h u y) (fun m => m x0 = some v) (fun m u hm => (if_neg h01).trans hm) (hJ i) hx1 hp hDC (Nat.ne_of_gt hDlt) (Nat.ne_of_gt hCle) hlD' hlC' (Nat.ne_of_lt hllt) hix hlx hax hnx (by simp) ?_ ?_ (by rw [hzl]; exact hsz i hlt)
      · intro u s₂ m₂ ys hu hn₂' hma hmu hacc₂' hk₂'
        refine helt i v u s₂ m₂ _ hv' hu hn₂' hma hmu hacc₂' (fun c o h1 h2 h3 e => ?_) ?_
        · obtain ⟨q1, q2⟩ := upx c o h1 h2 (hk c o h1 h2 h3 e)
          exact hk₂' c o h1 q1 h3 q2
        · refine (hkl.trans klx).trans fun c o hc hcD e => hk₂' c o (fun q => nsNotList hnx (q ▸ e) hc.2) (fun q => iterNotList hix (q ▸ e) hc.1) hcD e
      · intro h₄ tk₄ m₄ ws hn₄ hma hacc₄ hA₄ hk₄ hkl₄
        refine wpAny_pure ⟨rfl, vs.length + 1 - (i + 1), by omega, i + 1, h₄, tk₄, m₄, zs ++ ws, rfl, ?_, ?_, hacc₄, hn₄, ?_, hlt, rfl, fun c o h1 h2 h3 e => ?_, (hkl.trans klx).trans hkl₄⟩
        · refine hit₂.at fun o e => ?_
          have e3 := hk₃ _ o e
          exact hk₄ I0 o hIC (Nat.ne_of_lt (Heap.lt_size e3)) hID (Heap.get?_push_of_some _ e3)
        · refine hl₂.at fun o e => ?_
          have e3 := hk₃ _ o e
          exact hk₄ l0 o hlC (Nat.ne_of_lt (Heap.lt_size e3)) hlD (Heap.get?_push_of_some _ e3)
        · exact (hA.imp fun p y h => hJ _ _ _ _ _ h (klx.trans hkl₄)).append (All2.mapL (Q := fun p y => J p.1 h₄ p.2 y) (f := fun u => (i, u)) (fun u y h => h) hA₄)
        · obtain ⟨q1, q2⟩ := upx c o h1 h2 (hk c o h1 h2 h3 e)
          exact hk₄ c o h1 q1 h3 q2
    exact startOf rfl rfl loop (wpAny_pyIter_listiter hix loop)
  · have hin' : i = vs.length := by omega
    subst hin'
    refine W.done _ _ _ ⟨by rw [List.size_toArray]; exact hit', hl'⟩ fun h₁ tk₁ hk₁ => wpAny_pure ?_
    have hk₁' : ∀ c o, c ≠ I0 → h'.get? c = some o → h₁.get? c = some o := fun c o hc e => hk₁ c o (by simpa using hc) e
    have kl₁ : KeepL D h' h₁ := fun c o hc hcD e => hk₁' c o (fun q => iterNotList hit' (q ▸ e) hc.1) e
    exact hR h₁ tk₁ m' zs (hn'.at' fun o e => hk₁' _ o (Ne.symm hIC) e) (hacc'.at fun o e => hk₁' _ o (Ne.symm hID) e) (hA.imp fun p y h => hJ _ _ _ _ _ h kl₁) (fun c o h1 h2 h3 e => hk₁' c o h2 (hk c o h1 h2 h3 e)) (hkl.trans kl₁)
end
/-- What a list comprehension of two clauses asks behind its first iterator. -/
def Comp2 (prog : Program) (w : World) (A : Around) (env : Env) (scope : Scope) (cl : List (Str × Addr)) (x0 x1 : Str) (p0 p1 : Pos) (elt i0 i1 : Expr) (pos : Pos) (use : Option (Value → Sem Unit)) (E : Value → Shared → Prop) (Q : Value → Shared → Prop) (it : Value) (s₂ : Shared) : Prop :=
  CompAt prog w A env scope cl (newList []) (.ListComp elt [⟨.Name x0 p0, i0, [], 0⟩, ⟨.Name x1 p1, i1, [], 0⟩] scope pos) use E Q it s₂
section
variable {prog : Program} {w : World} {A : Around} {s : Shared} {env : Env}
theorem assignComp_2 {elt i0 i1 : Expr} {x0 x1 y : Str} {p0 p1 py : Pos} {scope : Scope} {cl : List (Str × Addr)} {pos at_ : Pos} {E : Value → Shared → Prop} {Q : Flow → Shared → Prop}
    (swap : swapsWith (.ListComp elt [⟨.Name x0 p0, i0, [], 0⟩, ⟨.Name x1 p1, i1, [], 0⟩] scope pos) (some (.Name y py)) at_.line env = pure true) (free : closureFor scope env = pure cl) (isf : scope.kind = .function) (locs : ∀ z ∈ scope.names, z.2 = .local → scope.names.lookup z.1 = some .local)
    (src : wpAny (model prog w) A (eval i0 env) (fun v s₁ => wpAny (model prog w) A (pyIter v) (Comp2 prog w A env scope cl x0 x1 p0 p1 elt i0 i1 pos (some (assign (.Name y py) env)) E (fun _ s' => Q .next s')) E s₁) E s) (plain : ∀ v, foldedSetIterable i0 env v = pure v := by intro _; rfl) :
    wpAny (model prog w) A (exec (.Assign [.Name y py] (.ListComp elt [⟨.Name x0 p0, i0, [], 0⟩, ⟨.Name x1 p1, i1, [], 0⟩] scope pos) at_) env) Q E s := compStore swap free isf locs src plain

theorem comp2Lst {l0 : Addr} {vs : List Value} {elt i0 i1 : Expr} {x0 x1 y : Str} {p0 p1 py : Pos} {scope : Scope} {cl : List (Str × Addr)} {pos : Pos} {m : Str → Option Value} {E : Value → Shared → Prop} {Q : Shared → Prop} (inn : Nat → List Value) (J : Addr → Nat → Heap → Value → Value → Prop)
    (hh : A.handled = none) (hl : s.heap.IsList l0 vs.toArray)
    (hJ : ∀ D i h h' u y, J D i h u y → KeepL D h h' → J D i h' u y)
    (hcell : ∀ y ∈ scope.names, y.2 ≠ .cell) (hkind : scope.kind = .function) (hx0 : scope.names.lookup x0 = some .local) (hx1 : scope.names.lookup x1 = some .local) (h01 : x0 ≠ x1)
    (hy : env.kindOf y = some .local) (hp : (env.scope.kind == .class || (env.scope.kind == .module && env.locals != env.globals)) = false) (hn : s.heap.Ns env.locals m)
    (hs : ∀ C x, foldedSetIterable i1 (compEnvC scope cl C env) x = pure x)
    (hin : ∀ C D i v s₂ m₂, s.heap.objs.size ≤ C → s.heap.objs.size ≤ D → vs[i]? = some v → s₂.heap.Ns C m₂ → m₂ x0 = some v → Keep s.heap s₂.heap →
      wpAny (model prog w) A (eval i1 (compEnvC scope cl C env)) (fun x s₃ => (∃ l, x = .ref l ∧ s₃.heap.IsList l (inn i).toArray ∧ l ≠ D) ∧ Keeps s₂ s₃) (fun _ _ => False) s₂)
    (helt : ∀ C D i v u s₂ m₂ ys, s.heap.objs.size ≤ C → s.heap.objs.size ≤ D → vs[i]? = some v → u ∈ inn i → s₂.heap.Ns C m₂ → m₂ x0 = some v → m₂ x1 = some u → s₂.heap.PlainList D ys → Keep s.heap s₂.heap →
      wpAny (model prog w) A (eval elt (compEnvC scope cl C env)) (fun y s₃ => J D i s₃.heap u y ∧ Keeps s₂ s₃) (fun _ _ => False) s₂)
    (hsz : ∀ i, i < vs.length → (pairsTo inn i).length + (inn i).length ≤ sizeLine)
    (fin : ∀ D s' (zs : List Value), s.heap.objs.size ≤ D → s'.heap.Ns env.locals (fun z => if z = y then some (.ref D) else m z) → s'.heap.PlainList D zs.toArray → All2 (fun p y => J D p.1 s'.heap p.2 y) (pairsTo inn vs.length) zs →
      (∀ b o, b ≠ env.locals → s.heap.get? b = some o → s'.heap.get? b = some o) → s'.gens = s.gens → s'.drawn = s.drawn → s'.os = s.os → Q s') :
    wpAny (model prog w) A (pyIter (.ref l0)) (Comp2 prog w A env scope cl x0 x1 p0 p1 elt i0 i1 pos (some (assign (.Name y py) env)) E (fun _ s' => Q s')) E s := by
  obtain ⟨ol, hol, rl⟩ := id hl
  have hlt := Heap.lt_size hol
  have hLlt := hn.lt
  refine wpAny_pyIter_list hl ?_
  refine compFresh hcell hkind fun D C h₁ m₀ hD hC keepH hacc hns₁ => ?_
  dsimp only at hD keepH hns₁ ⊢
  generalize hH1 : s.heap.push { cls := .type "list_iterator", data := .fields #[.ref l0, .int 0 0] } = H1 at hD keepH
  have hC1 : H1.objs.size = s.heap.objs.size + 1 := by rw [← hH1, Heap.size_push]
  subst hD
  have nlt : ∀ {c n m : Nat}, c < n → n ≤ m → c ≠ m := fun h1 h2 => Nat.ne_of_lt (Nat.lt_of_lt_of_le h1 h2)
  have hs1 : s.heap.objs.size ≤ H1.objs.size := by rw [hC1]; exact Nat.le_succ _
  have h12' : H1.objs.size < C := hC ▸ Nat.lt_succ_self _
  have hs2 : s.heap.objs.size ≤ C := Nat.le_trans hs1 (Nat.le_of_lt h12')
  have h12 : H1.objs.size ≠ C := Nat.ne_of_lt h12'
  have hI1 : s.heap.objs.size ≠ H1.objs.size := by rw [hC1]; exact Nat.ne_of_lt (Nat.lt_succ_self _)
  have hI2 : s.heap.objs.size ≠ C := Nat.ne_of_lt (Nat.lt_of_le_of_lt hs1 h12')
  have get1 : ∀ c o, H1.get? c = some o → h₁.get? c = some o := keepH
  have old : ∀ c o, s.heap.get? c = some o → h₁.get? c = some o := fun c o e => get1 c o (hH1 ▸ Heap.get?_push_of_some _ e)
  have hit : h₁.IsListIter s.heap.objs.size l0 0 := ⟨_, get1 _ _ (hH1 ▸ Heap.get?_push_size _ rfl), rfl, rfl⟩
  have loop : codeAny (model prog w) A (.compLoop (.ListComp elt [⟨.Name x0 p0, i0, [], 0⟩, ⟨.Name x1 p1, i1, [], 0⟩] scope pos) 0 (.ref s.heap.objs.size) (.ref H1.objs.size) (compEnvC scope cl C env))
      (compPost (model prog w) A E (some (assign (.Name y py) env)) (fun _ s' => Q s') (.ref H1.objs.size) C) { s with heap := h₁, toks := s.toks + 0 } := by
    have kp : ∀ (h' : Heap), (∀ c o, c ≠ C → c ≠ s.heap.objs.size → c ≠ H1.objs.size → h₁.get? c = some o → h'.get? c = some o) → Keep s.heap h' := fun h' hk c o e =>
      hk c o (nlt (Heap.lt_size e) hs2) (Nat.ne_of_lt (Heap.lt_size e)) (nlt (Heap.lt_size e) hs1) (old c o e)
    refine loopOut (cenv := compEnvC scope cl C env) hh inn (J H1.objs.size) (hJ _) (lookup_relabel_local hx0) (lookup_relabel_local hx1) h01 (by simp [compEnvC, relabel, hkind])
      h12 hI1 hI2 (nlt hlt hs1) (nlt hlt hs2) (Nat.ne_of_lt hlt) hit (hl.at fun o e => old _ o e) hacc hns₁ (hs _) ?_ ?_ ?_ hsz
    · exact fun i v s₂ m₂ hv hn₂ hm₂ hk₂ _ => hin _ _ i v s₂ m₂ hs2 hs1 hv hn₂ hm₂ (kp _ hk₂)
    · exact fun i v u s₂ m₂ ys hv hu hn₂ hm₀ hm₁ hacc₂ hk₂ _ => helt _ _ i v u s₂ m₂ ys hs2 hs1 hv hu hn₂ hm₀ hm₁ hacc₂ (kp _ hk₂)
    · intro h' tk m' zs hnC hpl hA hk _
      have hkp := kp _ hk
      have hLC : env.locals ≠ C := nlt hLlt hs2
      have hLD : env.locals ≠ H1.objs.size := nlt hLlt hs1
      have hnL : h'.Ns env.locals m := hn.at' fun o e => hkp _ o e
      show wpAny _ A (assign (.Name y py) env (.ref H1.objs.size)) _ _ _
      refine wpAny_assign_Name (wpAny_storeName_local hy hnL (fun h₂ hn₂ hs₂ => ?_) hp)
      refine ⟨m', hnC.sameBut hs₂ (Ne.symm hLC), fun h₃ hs₃ => ?_⟩
      have kl : KeepL H1.objs.size h' h₃ := fun c o hc hcD e =>
        hs₃.extBut c o (fun q => nsNotList hnC (q ▸ e) hc.2) (hs₂.extBut c o (fun q => nsNotList hnL (q ▸ e) hc.2) e)
      exact fin _ { s with heap := h₃, toks := tk + 1 } zs hs1 (hn₂.sameBut hs₃ hLC) ((hpl.at fun o e => hs₂.extBut _ o (Ne.symm hLD) e).at fun o e => hs₃.extBut _ o h12 e) (hA.imp fun p y h => hJ _ _ _ _ _ _ h kl)
        (fun c o hcL e => hs₃.extBut c o (nlt (Heap.lt_size e) hs2) (hs₂.extBut c o hcL (hkp c o e))) rfl rfl rfl
  exact codeAny_compStart_list loop (wpAny_pyIter_listiter hit loop)
end
end Mine
-- part KR
namespace Mine
theorem partKR {M : Model} {A : Around} {v : Value} {Q : Value → Shared → Prop} {E : Value → Shared → Prop} {s : Shared} (h : Q v s) : wpAny M A (pure v : Sem Value) Q E s := by
  w_top off
  first | (walk1; exact h) | exact wpAny_pure h
end Mine
open PySem PySem.W PyProof.Rows PySem.Calls
set_option maxRecDepth 100000
set_option maxHeartbeats 2000000
namespace Mine
/-- one turn of _law_rows -/
def rowsStep (W : Str → List Str) (rs : List (List Str)) : List (List Str) := rs.flatMap fun r => (W (r.getLastD (Str.ofString ""))).map fun t => r ++ [t]
def rowsAt (W : Str → List Str) : Nat → List (List Str)
  | 0 => [[Str.ofString "a"]]
  | i + 1 => rowsStep W (rowsAt W i)
def names4 : List Str := [Str.ofString "a", Str.ofString "ab", Str.ofString "b a", Str.ofString "c\\"]
/-- the map told as a dict of lists -/
def WaysAre (prog : Program) (w : World) (h : Heap) (d : Addr) (W : Str → List Str) (U : Str → List Value) : Prop :=
  ∃ kvs, h.DictOf (PySem.strKind prog w) d kvs ∧ ∀ x ∈ names4, ∃ l, valueAt kvs x = some (.ref l) ∧ h.IsList l (U x).toArray ∧ StrsAre (U x) (W x) ∧ (W x).length = 2 ∧ ∀ t ∈ W x, t ∈ names4
/-- lists of texts, new since hb -/
def RowsAre (hb h : Heap) (zs : List Value) (rs : List (List Str)) : Prop :=
  All2 (fun y r => ∃ a us n, y = .ref a ∧ hb.get? a = none ∧ h.get? a = some { cls := .type "list", data := .seq (List.toArray us) n } ∧ StrsAre us r) zs rs
def RowsJ (hb : Heap) (s₀ : Shared) (d : Addr) (W : Str → List Str) (I : Nat) (i : Nat) (s' : Shared) : Prop :=
  ∃ (l : Nat) (m' : Str → Option Value) (zs : List Value) (oW : Obj), Fr hb hb.objs.size s'.heap m' ∧ News hb hb.objs.size s'.heap [(I, rIter 4 i), (hb.objs.size + 1, oW)] ∧ oW.data = .cell (some (.ref d)) ∧ hb.objs.size + 1 ≠ I ∧
    m' (Str.ofString "rows") = some (.ref l) ∧ s'.heap.PlainList l zs.toArray ∧ hb.get? l = none ∧ RowsAre hb s'.heap zs (rowsAt W i) ∧ s'.gens = s₀.gens ∧ s'.drawn = s₀.drawn ∧ s'.os = s₀.os
section
variable {prog : Program} {w : World} {A : Around} {E : Value → Shared → Prop} {s : Shared}
theorem itemDict {value slice : Expr} {d : Addr} {kvs : List (Str × Value)} {x : Str} {t : Tok} {v : Value} {Q : Value → Shared → Prop} (isd : s.heap.DictOf (PySem.strKind prog w) d kvs) (there : valueAt kvs x = some v) (h : Q v { s with toks := s.toks + 1 })
    (own : subscripted slice false (.ref d) (.str x t) = operate [.ref d, .str x t] (getItem (.ref d) (.str x t)) := by with_unfolding_all rfl) : wpAny (model prog w) A (subscriptTail value slice (.ref d) (.str x t)) Q E s :=
  tail_any isd.typeIs slot_dict_getitem.lookup (wpAny_getItem_of (strKind_is prog w x t) isd.mapOf there h) own
theorem newListKeep {h₀ : Heap} {L : Addr} {m : Str → Option Value} {news : List (Addr × Obj)} {vs : List Value} {Q : Value → Shared → Prop} (F : Fr h₀ L s.heap m) (N : News h₀ L s.heap news)
    (h : ∀ D h', Keep s.heap h' → Fr h₀ L h' m → News h₀ L h' ((D, { cls := .type "list", data := .seq vs.toArray }) :: news) → (∀ p ∈ news, p.1 < D) → Q (.ref D) { s with heap := h' }) (hsz : vs.length ≤ sizeLine) :
    wpAny (model prog w) A (newList vs) Q E s := newList_NK F N (fun h' F' N' hk => h _ h' hk F' N' fun p hp => Heap.lt_size (N p hp).1) hsz
/-- a list object, told by its parts -/
theorem listShape {o : Obj} {us : Array Value} {n : Nat} (c : o.cls = .type "list") (d : o.data = .seq us n) : o = { cls := .type "list", dict := o.dict, data := .seq us n, slots := o.slots } := by rw [← c, ← d]
theorem addKeep {h₀ : Heap} {L : Addr} {m : Str → Option Value} {news : List (Addr × Obj)} {l b : Addr} {vs ws : List Value} {Q : Value → Shared → Prop} (F : Fr h₀ L s.heap m) (N : News h₀ L s.heap news) (left : s.heap.IsList l vs.toArray) (right : s.heap.IsList b ws.toArray)
    (h : ∀ D h', s.heap.get? D = none → Keep s.heap h' → Fr h₀ L h' m → News h₀ L h' ((D, { cls := .type "list", data := .seq (vs ++ ws).toArray }) :: news) → (∀ p ∈ news, p.1 < D) → Q (.ref D) { s with heap := h' })
    (small : vs.length + ws.length ≤ sizeLine) :
    wpAny (model prog w) A (binaryOp .Add (.ref l) (.ref b)) Q E s := by
  obtain ⟨o, get, c, n, d⟩ := left
  obtain ⟨o', get', c', n', d'⟩ := right
  have sum : wants Q E (.ok (.ret (.ref s.heap.objs.size))) { s with heap := s.heap.push { cls := .type "list", data := .seq (vs.toArray ++ ws.toArray) } } := by
    rw [List.append_toArray]
    exact h _ _ (Heap.get?_none_of_le (Nat.le_refl _)) (fun _ _ q => Heap.get?_push_of_some _ q) (F.push _) (N.push F _) fun p hp => Heap.lt_size (N p hp).1
  exact concat_meets ⟨o, get, c⟩ ⟨o', get', c'⟩ noFill_list_add seq_list_add PySem.F.slot_list_add PySem.F.entry_list_add (PySem.F.args_list_add_2 _ _)
    (list_addW l b _ _ n n' o.dict o'.dict o.slots o'.slots (by rw [List.size_toArray, List.size_toArray]; exact small)) ⟨get.trans (congrArg some (listShape c d)), get'.trans (congrArg some (listShape c' d')), sum⟩
end
theorem noneBack {h h' : Heap} {a : Addr} (hk : Keep h h') (e : h'.get? a = none) : h.get? a = none := by
  cases q : h.get? a with
  | none => rfl
  | some o => rw [hk a o q] at e; cases e
theorem stays_dict {prog : Program} {w : World} {h h' : Heap} {d : Addr} {kvs : List (Str × Value)} (hk : Keep h h') (x : h.DictOf (PySem.strKind prog w) d kvs) : h'.DictOf (PySem.strKind prog w) d kvs := let ⟨o, es, ep, ho, r⟩ := x; ⟨o, es, ep, hk _ _ ho, r⟩
theorem RowsAre.keepL {hb h h' : Heap} {zs : List Value} {rs : List (List Str)} (x : RowsAre hb h zs rs) (hk : ∀ b o, (o.cls = .type "list" ∧ ∃ us n, o.data = .seq us n) → h.get? b = some o → h'.get? b = some o) : RowsAre hb h' zs rs :=
  All2.imp (fun _ _ ⟨a, us, n, e, hn, hg, hs⟩ => ⟨a, us, n, e, hn, hk _ _ ⟨rfl, _, _, rfl⟩ hg, hs⟩) x
theorem lastIn {q : List Str} {i : Nat} (hl : q.length = i + 1) (hn : ∀ t ∈ q, t ∈ names4) : q.getLastD (Str.ofString "") ∈ names4 := by
  cases q with
  | nil => cases hl
  | cons a b =>
    rw [List.getLastD_cons, List.getLastD_eq_getLast?]
    cases e : b.getLast? with
    | none => exact hn _ (.head _)
    | some z => exact hn _ (List.mem_cons_of_mem _ (List.mem_of_getLast? e))
theorem rowsAt_names {W : Str → List Str} (hW : ∀ x ∈ names4, (W x).length = 2 ∧ ∀ t ∈ W x, t ∈ names4) : ∀ i, ∀ r ∈ rowsAt W i, r.length = i + 1 ∧ ∀ t ∈ r, t ∈ names4
  | 0, r, hr => by
    rw [rowsAt, List.mem_singleton] at hr
    subst hr
    exact ⟨rfl, fun t ht => by rw [List.mem_singleton.mp ht]; exact .head _⟩
  | i + 1, r, hr => by
    rw [rowsAt, rowsStep, List.mem_flatMap] at hr
    obtain ⟨q, hq, hr⟩ := hr
    obtain ⟨t, ht, rfl⟩ := List.mem_map.mp hr
    obtain ⟨hl, hn⟩ := rowsAt_names hW i q hq
    have hlast := lastIn hl hn
    refine ⟨by rw [List.length_append, hl]; rfl, fun z hz => ?_⟩
    rcases List.mem_append.mp hz with hz | hz
    · exact hn z hz
    · rw [List.mem_singleton.mp hz]; exact (hW _ hlast).2 t ht
theorem All2.at {α β : Type} {P : α → β → Prop} : ∀ {as : List α} {bs : List β}, All2 P as bs → ∀ {k : Nat} {a : α}, as[k]? = some a → ∃ b, bs[k]? = some b ∧ P a b
  | _, _, .nil, _, _, e => by simp at e
  | _, _, .cons h r, 0, a, e => by simp at e; subst e; exact ⟨_, rfl, h⟩
  | _, _, .cons h r, k + 1, a, e => by simpa using r.at (by simpa using e)
theorem All2.split {α β : Type} {P : α → β → Prop} : ∀ {as bs : List α} {cs : List β}, All2 P (as ++ bs) cs → ∃ c d, cs = c ++ d ∧ All2 P as c ∧ All2 P bs d
  | [], _, cs, h => ⟨[], cs, rfl, .nil, h⟩
  | a :: as, bs, _, .cons h r => by
    obtain ⟨c, d, rfl, x, y⟩ := All2.split r
    exact ⟨_ :: c, d, rfl, .cons h x, y⟩
/-- what a turn lays into the new list of rows -/
def rowEl (hb : Heap) (rs : List (List Str)) (D : Addr) (k : Nat) (h : Heap) (u y : Value) : Prop :=
  ∃ r w t, rs[k]? = some r ∧ u = .str w t ∧ ∃ a us n, y = .ref a ∧ a ≠ D ∧ hb.get? a = none ∧ h.get? a = some { cls := .type "list", data := .seq (List.toArray us) n } ∧ StrsAre us (r ++ [w])
def InV (h : Heap) (us : List Value) (D : Addr) (x : Value) : Prop := ∃ l, x = .ref l ∧ h.IsList l us.toArray ∧ l ≠ D
theorem rowsOne {hb h : Heap} {rs : List (List Str)} {D : Addr} {k : Nat} {r : List Str} (hr : rs[k]? = some r) : ∀ {us ys : List Value} {ws : List Str}, StrsAre us ws → All2 (fun p y => rowEl hb rs D p.1 h p.2 y) (us.map fun u => (k, u)) ys → RowsAre hb h ys (ws.map fun t => r ++ [t])
  | _, _, _, .nil, .nil => .nil
  | _, _, _, .cons w t q, .cons e z => by
    obtain ⟨r', w', t', hr', e1, a, us, n, rfl, _, hn, hg, hs⟩ := e
    dsimp only at hr' e1
    rw [hr] at hr'
    cases hr'
    cases e1
    exact .cons ⟨a, us, n, rfl, hn, hg, hs⟩ (rowsOne hr q z)
theorem rowsAll {hb h : Heap} {W : Str → List Str} {inn : Nat → List Value} {rs : List (List Str)} {D : Addr} (hi : ∀ k r, rs[k]? = some r → StrsAre (inn k) (W (r.getLastD (Str.ofString "")))) : ∀ {n : Nat} {ys : List Value}, n ≤ rs.length →
    All2 (fun p y => rowEl hb rs D p.1 h p.2 y) (pairsTo inn n) ys → RowsAre hb h ys (rowsStep W (rs.take n))
  | 0, _, _, .nil => .nil
  | n + 1, ys, hn, x => by
    obtain ⟨c, d, rfl, x1, x2⟩ := All2.split x
    obtain ⟨r, hr⟩ : ∃ r, rs[n]? = some r := ⟨_, List.getElem?_eq_getElem hn⟩
    rw [List.take_add_one, hr, rowsStep, List.flatMap_append]
    have y1 : RowsAre hb h c (rowsStep W (rs.take n)) := rowsAll hi (Nat.le_of_succ_le hn) x1
    have y2 := rowsOne hr (hi n r hr) x2
    refine All2.append y1 ?_
    simpa [RowsAre] using y2
theorem pairsTo_len {inn : Nat → List Value} {c : Nat} : ∀ n, (∀ k, k < n → (inn k).length ≤ c) → (pairsTo inn n).length ≤ n * c
  | 0, _ => by simp [pairsTo]
  | n + 1, h => by
    rw [pairsTo, List.length_append, List.length_map, Nat.succ_mul]
    exact Nat.add_le_add (pairsTo_len n fun k hk => h k (Nat.lt_succ_of_lt hk)) (h n (Nat.lt_succ_self _))
theorem rowsAt_len {W : Str → List Str} (hW : ∀ x ∈ names4, (W x).length = 2 ∧ ∀ t ∈ W x, t ∈ names4) : ∀ i, (rowsAt W i).length ≤ 2 ^ i
  | 0 => Nat.le_refl _
  | i + 1 => by
    have h1 := rowsAt_names hW i
    have h2 := rowsAt_len hW i
    rw [rowsAt, rowsStep, List.length_flatMap, Nat.pow_succ]
    have : ∀ rs : List (List Str), (∀ r ∈ rs, r.getLastD (Str.ofString "") ∈ names4) → (rs.map fun r => ((W (r.getLastD (Str.ofString ""))).map fun t => r ++ [t]).length).sum ≤ rs.length * 2 := by
      intro rs
      induction rs with
      | nil => intro _; exact Nat.le_refl _
      | cons a b ih =>
        intro h
        rw [List.map_cons, List.sum_cons, List.length_map, (hW _ (h a (.head _))).1, List.length_cons]
        have := ih fun r hr => h r (.tail _ hr)
        omega
    exact Nat.le_trans (this _ fun r hr => lastIn (h1 r hr).1 (h1 r hr).2) (Nat.mul_le_mul_right 2 h2)
local macro_rules | `(tactic| walk_at "exec For Name Call cons nil") => `(tactic| (k_here; refine Halt.of ?_))
local macro_rules | `(tactic| walk_at "eval Name") => `(tactic| (walk_at "mine name"))
local macro_rules | `(tactic| walk_at "newList") => `(tactic| (k_here; k_dflt (refine' newListKeep ?F ?N ?_ ?z; (case F => k_asm); (case N => k_asm); (case z => exact Nat.le_of_ble_eq_true rfl); k_whole); intro D' h' K' F' N' l1; (try k_lt l1); (try k_sweep)))
local macro_rules | `(tactic| walk_at "binaryOp Add ref ref") => `(tactic| (k_here; (with_reducible show wpAny _ _ (binaryOp _ (Value.ref _) (Value.ref _)) _ _ _); k_dflt (refine' addKeep ?F ?N ?a ?b ?_ ?z; (case F => k_asm); (case N => k_asm); (case a => exact News.isList (by k_asm) (by k_mem)); (case b => exact News.isList (by k_asm) (by k_mem)); (case z => (simp only [sizeLine_eq, List.length_cons, List.length_nil]; omega))); intro D' h' e1 K' F' N' l1; (try k_lt l1); (try k_sweep)))
local macro_rules | `(tactic| walk_at "subscriptTail Name UnaryOp ref int") => `(tactic| (k_here; (with_reducible show wpAny _ _ (subscriptTail _ _ (Value.ref _) (Value.int (-1) _)) _ _ _); k_dflt (refine' itemLast ?k1 ?k2 ?_ ?k6; (case k1 => exact News.isList (by k_asm) (by k_mem)); (case k2 => assumption); (case k6 => with_unfolding_all rfl); k_whole)))
local macro_rules | `(tactic| walk_at "subscriptTail Name Subscript ref str") => `(tactic| (k_here; (with_reducible show wpAny _ _ (subscriptTail _ _ (Value.ref _) (Value.str _ _)) _ _ _); (with_reducible rename Fr _ _ _ _ => kF); k_dflt (refine' itemDict ?k1 ?k2 ?_ ?k3; (case k1 => exact stays_dict kF.keep (by assumption)); (case k2 => assumption); (case k3 => with_unfolding_all rfl); k_whole)))
section
variable {w : World} {dp un : Nat} {fr : Option (List Env)} {gd : Option (List Code)} {s : Shared} {mean : ExcName → Option Value} {mg mb : Str → Option Value}
theorem c_rows {R : Result → Shared → Prop} {d : Addr} {W : Str → List Str} {U : Str → List Value} (X : (hd.heap_39 w.params).In s.heap) (T : Top hd.view_39 (looseW hd.view_39 []) mean mg mb s.heap) (hroom : dp + 200 < recursionLimit) (hW : WaysAre PySem.Challenge.rw_kl0414_01.row.prog w s.heap d W U)
    (h : ∀ a n zs s', Keep s.heap s'.heap → s.heap.get? a = none → s'.heap.get? a = some { cls := .type "list", data := .seq (List.toArray zs) n } → RowsAre s.heap s'.heap zs (rowsAt W 4) → s'.gens = s.gens → s'.drawn = s.drawn → s'.os = s.os → R (.ok (.ret (.ref a))) s') :
    codeAny (model PySem.Challenge.rw_kl0414_01.row.prog w) (Around.mk none dp fr gd un) (.call (.ref 71) ⟨[.ref d], []⟩) R s := by
  revert X; k_fill; intro X
  refine' callBC (binds := [(Str.ofString "ways", .ref d)]) ?k1 ?k2 ?k3 ?k6 ?k7 ?k9 ?kB ?kD ?_ ?c2 ?c3 ?c4
  case k1 => exact X
  case k2 => exact T.nolimit
  case k3 => (try dsimp only); omega
  case k6 => k_is
  case k7 => k_is
  case k9 => exact rfl
  case kB => exact rfl
  case kD => decide +kernel
  case c2 => exact rfl
  case c3 => exact rfl
  case c4 => exact rfl
  intro h₁ tk cells F N Y
  k_cells Y
  try dsimp only
  k_steps
  refine Halt.go ?_
  refine' For_J ?_
  k_steps
  with_reducible rename IsRange _ _ _ _ _ _ _ _ => hR
  with_reducible rename News _ _ _ _ => kN
  with_reducible rename Fr _ _ _ _ => kF
  have hW' := hW
  obtain ⟨kvs, hdict, hways⟩ := hW'
  have hWn : ∀ x ∈ names4, (W x).length = 2 ∧ ∀ t ∈ W x, t ∈ names4 := fun x hx => let ⟨_, _, _, _, h1, h2⟩ := hways x hx; ⟨h1, h2⟩
  refine forRange (n := 4) (RowsJ s.heap s d W) rfl hR rfl rfl ?_ ?_ ?_ ?_
  · have NP := News.push kF kN (rIter 4 0) rfl
    refine ⟨_, _, [.ref _], _, kF.push _, fun p hp => NP p ?_, ‹_›, Nat.ne_of_lt (Heap.lt_size (kN _ (.tail _ (.tail _ (.head _)))).1), rfl, ⟨0, (NP _ (.tail _ (.head _))).1⟩, (kN _ (.head _)).2.2, .cons ⟨_, [.str (Str.ofString "a") _], 0, rfl, (kN _ (.tail _ (.head _))).2.2, (NP _ (.tail _ (.tail _ (.head _)))).1, .cons _ _ .nil⟩ .nil, rfl, rfl, rfl⟩
    simp only [List.mem_cons, List.not_mem_nil, or_false] at hp ⊢
    rcases hp with h | h
    · exact .inl h
    · exact .inr (.inr (.inr h))
  · rintro I i s' ⟨l, m', zs, oW, F', N', _⟩
    exact (N' _ (List.Mem.head _)).1
  · clear kN kF hR
    rintro I i s' t h' tk' hi ⟨l, m', zs, oW, F', N', dW, hcI, hm, hpl, hln, hrows, hg, hdr, hos⟩ hst hk
    have hnl : ∀ b o, (o.cls = .type "list" ∧ ∃ us n, o.data = .seq us n) → s'.heap.get? b = some o → h'.get? b = some o := fun b o hc e => hk b o (fun q => by
      have e2 := (N' _ (List.Mem.head _)).1
      dsimp only at e2
      rw [q, e2] at e
      cases e
      exact absurd (Value.type.inj hc.1) (by decide)) e
    obtain ⟨F₁, N₁⟩ := moveI F' N' (by simp [hcI]) hst hk
    have hrows₁ := hrows.keepL hnl
    have hpl₁ : h'.PlainList l zs.toArray := let ⟨n, e⟩ := hpl; ⟨n, hnl _ _ ⟨rfl, _, _, rfl⟩ e⟩
    clear F' N' hnl hrows hpl hk hst
    refine wpAny_assign_Name (wpAny_storeName_local rfl F₁.ns (fun h₂ hn₂ hs₂ => ?_) rfl)
    have hnl₂ : ∀ b o, (o.cls = .type "list" ∧ ∃ us n, o.data = .seq us n) → h'.get? b = some o → h₂.get? b = some o := fun b o hc e => hs₂.extBut b o (fun q => nsNotList F₁.ns (by rw [show b = s.heap.objs.size from q] at e; exact e) hc.2) e
    have F₂ : Fr s.heap s.heap.objs.size h₂ _ := ⟨hn₂, fun b o e => hs₂.extBut b o (Nat.ne_of_lt (Heap.lt_size e)) (F₁.keep b o e), Nat.le_refl _⟩
    have N₂ : News s.heap s.heap.objs.size h₂ [(I, rIter 4 (i + 1)), (s.heap.objs.size + 1, oW)] := fun p hp => ⟨hs₂.extBut _ _ (N₁ p hp).2.1 (N₁ p hp).1, (N₁ p hp).2⟩
    have hrows₂ := hrows₁.keepL hnl₂
    have hpl₂ : h₂.PlainList l zs.toArray := let ⟨n, e⟩ := hpl₁; ⟨n, hnl₂ _ _ ⟨rfl, _, _, rfl⟩ e⟩
    clear hnl₂ hrows₁ hpl₁ F₁ N₁ hs₂ hn₂
    have hzl : zs.length = (rowsAt W i).length := hrows₂.length
    have hlen16 : zs.length ≤ 16 := by
      rw [hzl]
      refine Nat.le_trans (rowsAt_len hWn i) ?_
      have : (2 : Nat) ^ i ≤ 2 ^ 4 := Nat.pow_le_pow_right (by decide) (by omega)
      exact this
    have hname := rowsAt_names hWn i
    have hrn : ∀ (k : Nat) (r : List Str), (rowsAt W i)[k]? = some r → r.length = i + 1 ∧ r.getLastD (Str.ofString "") ∈ names4 := fun k r hr =>
      let h1 := hname r (List.mem_of_getElem? hr); ⟨h1.1, lastIn h1.1 h1.2⟩
    refine wpAny_execs_cons ?_
    refine assignComp_2 (cl := [(Str.ofString "ways", s.heap.objs.size + 1)]) (by with_unfolding_all rfl) (by with_unfolding_all rfl) rfl (by decide) ?_
    refine wpAny_Name (wpAny_loadName_local (v := .ref l) rfl rfl F₂.ns ((if_neg (by decide)).trans hm) ?_) (by decide)
    refine comp2Lst (vs := zs) (fun k => U (((rowsAt W i)[k]?.getD []).getLastD (Str.ofString ""))) (fun D k h u y => rowEl s.heap (rowsAt W i) D k h u y) rfl hpl₂.isList ?_ (by decide) rfl rfl rfl (by decide) rfl rfl F₂.ns (fun _ _ => by rfl) ?_ ?_ ?_ ?_
    · rintro D k h h' u y ⟨r, w₁, t₁, hr, hu, a, us, n, hy, haD, hna, hga, hsa⟩ hkl
      exact ⟨r, w₁, t₁, hr, hu, a, us, n, hy, haD, hna, hkl _ _ ⟨rfl, _, _, rfl⟩ haD hga, hsa⟩
    · intro C D k v s₂ m₂ hC hD hv hn₂ hm₂ hk₂
      obtain ⟨r, hr, a, us, n, rfl, hna, hga, hsa⟩ := hrows₂.at hv
      obtain ⟨hrl, hrlast⟩ := hrn k r hr
      obtain ⟨lw, hval, hlw, hUW, _, _⟩ := hways _ hrlast
      obtain ⟨FC, NC⟩ := compFrK F₂ N₂ hC hn₂ hk₂
      replace FC := Fr.known0 FC hm₂
      have NC₂ : News s.heap C s₂.heap [(a, { cls := .type "list", data := .seq us.toArray n }), (s.heap.objs.size + 1, oW)] := fun p hp => by
        rcases List.mem_cons.mp hp with rfl | hp
        · exact ⟨hk₂ _ _ hga, Nat.ne_of_lt (Nat.lt_of_lt_of_le (Heap.lt_size hga) hC), hna⟩
        · exact NC p (List.mem_cons_of_mem _ hp)
      obtain ⟨tl, hlast⟩ : ∃ tl, us.getLast? = some (.str (r.getLastD (Str.ofString "")) tl) := by
        have e : r.getLast? = some (r.getLastD (Str.ofString "")) := by
          cases r with
          | nil => cases hrl
          | cons a b => rw [List.getLast?_cons, List.getLastD_cons, List.getLastD_eq_getLast?]
        rw [List.getLast?_eq_getElem?] at e ⊢
        obtain ⟨t, ht⟩ := strsGet hsa e
        exact ⟨t, by rw [hsa.length]; exact ht⟩
      have hInn : InV s₂.heap (U (((rowsAt W i)[k]?.getD []).getLastD (Str.ofString ""))) D (.ref lw) := by
        rw [hr]
        refine ⟨lw, rfl, stays_list FC.keep hlw, ?_⟩
        obtain ⟨o, ho, _⟩ := hlw
        exact Nat.ne_of_lt (Nat.lt_of_lt_of_le (Heap.lt_size (F₂.keep _ _ ho)) hD)
      clear NC F₂ N₂ hn₂ hm₂ hk₂ hga
      show wpAny _ _ _ (fun x s₃ => InV s₃.heap _ D x ∧ Keeps s₂ s₃) _ _
      k_steps
      · exact hInn
      · exact ⟨_, _, rfl, fun _ _ e => e⟩
    · intro C D k v u s₂ m₂ ys hC hD hv hu hn₂ hm₂ hm₃ hpD hk₂
      obtain ⟨r, hr, a, us, n, rfl, hna, hga, hsa⟩ := hrows₂.at hv
      obtain ⟨hrl, hrlast⟩ := hrn k r hr
      obtain ⟨lw, hval, hlw, hUW, hW2, hWt⟩ := hways _ hrlast
      rw [hr] at hu
      obtain ⟨ju, hju⟩ := List.getElem?_of_mem hu
      obtain ⟨wt, tu, rfl, hwt⟩ := strsAt hUW hju
      obtain ⟨FC, NC⟩ := compFrK F₂ N₂ hC hn₂ hk₂
      replace FC := Fr.known0 (Fr.known0 FC hm₂) ((if_neg (by decide)).trans hm₃)
      have NC₂ : News s.heap C s₂.heap [(a, { cls := .type "list", data := .seq us.toArray n }), (s.heap.objs.size + 1, oW)] := fun p hp => by
        rcases List.mem_cons.mp hp with rfl | hp
        · exact ⟨hk₂ _ _ hga, Nat.ne_of_lt (Nat.lt_of_lt_of_le (Heap.lt_size hga) hC), hna⟩
        · exact NC p (List.mem_cons_of_mem _ hp)
      have hul : us.length ≤ 5 := by rw [hsa.length, hrl]; omega
      have hDa : ∀ a', s₂.heap.get? a' = none → a' ≠ D := fun a' e q => by
        obtain ⟨nD, hD⟩ := hpD
        rw [q, hD] at e
        cases e
      clear NC F₂ N₂ hn₂ hm₂ hm₃ hk₂ hga hpD hlw hval
      k_steps
      all_goals with_reducible rename Keep _ _ => K2
      all_goals revert K2
      all_goals with_reducible rename Keep _ _ => K1
      all_goals intro K2
      · with_reducible rename News _ _ _ _ => kN
        refine ⟨r, wt, tu, hr, rfl, _, _, 0, rfl, hDa _ (noneBack K1 ‹_›), (kN _ (.head _)).2.2, (kN _ (.head _)).1, kct_snoc hsa⟩
      · exact ⟨_, _, rfl, fun b o e => K2 b o (K1 b o e)⟩
    · intro k hk
      have h2 : ∀ j, j < zs.length → (U (((rowsAt W i)[j]?.getD []).getLastD (Str.ofString ""))).length ≤ 2 := by
        intro j hj
        obtain ⟨r, hr⟩ : ∃ r, (rowsAt W i)[j]? = some r := ⟨_, List.getElem?_eq_getElem (hzl ▸ hj)⟩
        obtain ⟨_, _, _, hUW, h2, _⟩ := hways _ (hrn j r hr).2
        rw [hr]
        show (U (r.getLastD (Str.ofString ""))).length ≤ 2
        rw [hUW.length, h2]
        exact Nat.le_refl _
      have h3 := pairsTo_len (inn := fun k => U (((rowsAt W i)[k]?.getD []).getLastD (Str.ofString ""))) (c := 2) k fun j hj => h2 j (Nat.lt_trans hj hk)
      have h4 := h2 k hk
      rw [sizeLine_eq]
      omega
    · intro D s₃ zs' hDL hns hpl' hA hk₃ hg₃ hdr₃ hos₃
      refine wpAny_execs_nil ⟨.inl rfl, D, _, zs', oW, ⟨hns, fun b o e => hk₃ b o (Nat.ne_of_lt (Heap.lt_size e)) (F₂.keep b o e), Nat.le_refl _⟩, fun p hp => ⟨hk₃ _ _ (N₂ p hp).2.1 (N₂ p hp).1, (N₂ p hp).2⟩, dW, hcI, if_pos rfl, hpl', noneOf F₂.keep hDL, ?_, hg₃.trans hg, hdr₃.trans hdr, hos₃.trans hos⟩
      have h5 := rowsAll (W := W) (fun k r hr => by
        obtain ⟨_, _, _, hUW, _, _⟩ := hways _ (hrn k r hr).2
        rw [hr]
        exact hUW) (Nat.le_of_eq hzl) hA
      rw [hzl, List.take_length] at h5
      exact h5
  · clear kN kF hR
    rintro I s' h' tk' ⟨l, m', zs, oW, F', N', dW, hcI, hm, hpl, hln, hrows, hg, hdr, hos⟩ hk
    have hnl : ∀ b o, (o.cls = .type "list" ∧ ∃ us n, o.data = .seq us n) → s'.heap.get? b = some o → h'.get? b = some o := fun b o hc e => hk b o (fun q => by
      have e2 := (N' _ (List.Mem.head _)).1
      dsimp only at e2
      rw [q, e2] at e
      cases e
      exact absurd (Value.type.inj hc.1) (by decide)) e
    obtain ⟨F₁, N₁⟩ := moveOff F' N' (by simp [hcI]) hk
    have hrows₁ := hrows.keepL hnl
    obtain ⟨n, hpl⟩ := hpl
    have hpl₁ := hnl _ _ ⟨rfl, _, _, rfl⟩ hpl
    clear F' N'
    replace F₁ := Fr.known0 F₁ hm
    have hkeep := F₁.keep
    k_steps
    exact h _ _ _ _ hkeep hln hpl₁ hrows₁ hg hdr hos
end
end Mine
-- part KD
namespace Mine
theorem partKD {M : Model} {A : Around} {v : Value} {Q : Value → Shared → Prop} {E : Value → Shared → Prop} {s : Shared} (h : Q v s) : wpAny M A (pure v : Sem Value) Q E s := by
  w_top off
  first | (walk1; exact h) | exact wpAny_pure h
end Mine
open PySem PySem.W PyProof.Rows PySem.Calls
set_option maxRecDepth 100000
set_option maxHeartbeats 2000000
namespace Mine
/-- What a dict comprehension over a list of texts asks behind its iterator. -/
def CompD (prog : Program) (w : World) (A : Around) (env : Env) (scope : Scope) (cl : List (Str × Addr)) (x : Str) (px : Pos) (kx vx iter : Expr) (pos : Pos) (E : Value → Shared → Prop) (Q : Value → Shared → Prop) (it : Value) (s₂ : Shared) : Prop :=
  CompAt prog w A env scope cl newDict (.DictComp kx vx [⟨.Name x px, iter, [], 0⟩] scope pos) none E Q it s₂
/-- one pair after the other -/
def dictOf (ks : List Str) (ys : List Value) : List (Str × Value) := (ks.zip ys).foldl (fun d p => stored d p.1 p.2) []
theorem dictOf_len : ∀ (l : List (Str × Value)) (d : List (Str × Value)), (l.foldl (fun d p => stored d p.1 p.2) d).length ≤ d.length + l.length
  | [], d => by simp
  | p :: r, d => by
    have h1 := dictOf_len r (stored d p.1 p.2)
    have h2 := stored_length_le d p.1 p.2
    simp only [List.foldl_cons, List.length_cons]
    omega
section
variable {prog : Program} {w : World} {A : Around} {s : Shared} {env : Env}
theorem dictComp_L {kx vx iter : Expr} {x : Str} {px : Pos} {scope : Scope} {cl : List (Str × Addr)} {pos : Pos} {E Q : Value → Shared → Prop} (free : closureFor scope env = pure cl) (isf : scope.kind = .function) (locs : ∀ z ∈ scope.names, z.2 = .local → scope.names.lookup z.1 = some .local)
    (src : wpAny (model prog w) A (eval iter env) (fun v s₁ => wpAny (model prog w) A (pyIter v) (CompD prog w A env scope cl x px kx vx iter pos E Q) E s₁) E s) (plain : ∀ v, foldedSetIterable iter env v = pure v := by intro _; rfl) :
    wpAny (model prog w) A (eval (.DictComp kx vx [⟨.Name x px, iter, [], 0⟩] scope pos) env) Q E s :=
  (arm_eval_DictComp (env := env) kx vx [⟨.Name x px, iter, [], 0⟩] scope pos) ▸ wpAny_comprehension_free (use := none) rfl plain free isf locs src
theorem compDict {l : Addr} {us : List Value} {ks : List Str} {kx vx iter : Expr} {x : Str} {px : Pos} {scope : Scope} {cl : List (Str × Addr)} {pos : Pos} {E Q : Value → Shared → Prop} (J : Heap → Str → Value → Prop)
    (hh : A.handled = none) (hl : s.heap.IsList l us.toArray) (hus : StrsAre us ks) (hsz : us.length ≤ sizeLine)
    (hJ : ∀ h h' k y, J h k y → (∀ b o, (o.cls = .type "list" ∧ ∃ us n, o.data = .seq us n) → h.get? b = some o → h'.get? b = some o) → J h' k y)
    (hcell : ∀ y ∈ scope.names, y.2 ≠ .cell) (hkind : scope.kind = .function) (hx : scope.names.lookup x = some .local)
    (hkey : ∀ C k t s₂ m₂ E', s.heap.objs.size ≤ C → s₂.heap.Ns C m₂ → m₂ x = some (.str k t) → Keep s.heap s₂.heap →
      wpAny (model prog w) A (eval kx (compEnvC scope cl C env)) (fun key s₃ => (∃ t', key = .str k t') ∧ Keeps s₂ s₃) E' s₂)
    (hval : ∀ C k t s₂ m₂, k ∈ ks → s.heap.objs.size ≤ C → s₂.heap.Ns C m₂ → m₂ x = some (.str k t) → Keep s.heap s₂.heap →
      wpAny (model prog w) A (eval vx (compEnvC scope cl C env)) (fun y s₃ => J s₃.heap k y ∧ Keeps s₂ s₃) (fun _ _ => False) s₂)
    (fin : ∀ D s' ys, s.heap.objs.size ≤ D → s'.heap.DictOf (PySem.strKind prog w) D (dictOf ks ys) → All2 (J s'.heap) ks ys → Keep s.heap s'.heap → s'.gens = s.gens → s'.drawn = s.drawn → s'.os = s.os → Q (.ref D) s') :
    wpAny (model prog w) A (pyIter (.ref l)) (CompD prog w A env scope cl x px kx vx iter pos E Q) E s := by
  obtain ⟨ol, hol, rl⟩ := id hl
  have hlt := Heap.lt_size hol
  refine wpAny_pyIter_list hl ?_
  unfold CompD CompAt
  refine wpAny_newObj_type (wpAny_newFunctionEnv hcell (by intro y hy; simp at hy) (fun h₁ hns₁ hsb₁ => ?_) hkind)
  dsimp only at hns₁ hsb₁ ⊢
  generalize hH1 : s.heap.push { cls := .type "list_iterator", data := .fields #[.ref l, .int 0 0] } = H1 at hns₁ hsb₁ ⊢
  have hnew : (H1.push { cls := .type "dict", dict := none, data := .dict #[] }).DictOf (PySem.strKind prog w) H1.objs.size [] := Heap.DictOf.new H1
  generalize hH2 : H1.push { cls := .type "dict", dict := none, data := .dict #[] } = H2 at hns₁ hsb₁ hnew ⊢
  have hC1 : H1.objs.size = s.heap.objs.size + 1 := by rw [← hH1, Heap.size_push]
  have hC : H2.objs.size = s.heap.objs.size + 1 + 1 := by rw [← hH2, Heap.size_push, hC1]
  have nlt : ∀ {c n m : Nat}, c < n → n ≤ m → c ≠ m := fun h1 h2 => Nat.ne_of_lt (Nat.lt_of_lt_of_le h1 h2)
  have hs1 : s.heap.objs.size ≤ H1.objs.size := by rw [hC1]; exact Nat.le_succ _
  have hs2 : s.heap.objs.size ≤ H2.objs.size := by rw [hC]; exact Nat.le_succ_of_le (Nat.le_succ _)
  have h12 : H1.objs.size ≠ H2.objs.size := by rw [hC, hC1]; exact Nat.ne_of_lt (Nat.lt_succ_self _)
  have hI1 : s.heap.objs.size ≠ H1.objs.size := by rw [hC1]; exact Nat.ne_of_lt (Nat.lt_succ_self _)
  have hI2 : s.heap.objs.size ≠ H2.objs.size := by rw [hC]; exact Nat.ne_of_lt (Nat.lt_succ_of_lt (Nat.lt_succ_self _))
  have get1 : ∀ c o, H1.get? c = some o → h₁.get? c = some o := fun c o e => hsb₁.extBut c o (nlt (Heap.lt_size e) (by rw [hC, hC1]; exact Nat.le_succ _)) (Heap.get?_push_of_some _ (hH2 ▸ Heap.get?_push_of_some _ e))
  have old : ∀ c o, s.heap.get? c = some o → h₁.get? c = some o := fun c o e => get1 c o (hH1 ▸ Heap.get?_push_of_some _ e)
  have hacc : h₁.DictOf (PySem.strKind prog w) H1.objs.size [] := hnew.at fun o e => hsb₁.extBut _ _ h12 (Heap.get?_push_of_some _ e)
  have hit : h₁.IsListIter s.heap.objs.size l 0 := ⟨_, get1 _ _ (hH1 ▸ Heap.get?_push_size _ rfl), rfl, rfl⟩
  have W := Walks.list (prog := prog) (w := w) (A := A) hh s.heap.objs.size l (Nat.ne_of_lt hlt) us.toArray
  have dnl : ∀ {h : Heap} {D : Addr} {kvs : List (Str × Value)} {o : Obj}, h.DictOf (PySem.strKind prog w) D kvs → h.get? D = some o → (∃ us n, o.data = .seq us n) → False := by
    rintro h D kvs o ⟨oD, es, ep, hoD, _, hd, _⟩ e ⟨us, n, hd'⟩
    rw [hoD] at e
    cases e
    rw [hd] at hd'
    cases hd'
  have kp : ∀ (h' : Heap), (∀ c o, c ≠ H2.objs.size → c ≠ s.heap.objs.size → c ≠ H1.objs.size → h₁.get? c = some o → h'.get? c = some o) → Keep s.heap h' := fun h' hk c o e =>
    hk c o (nlt (Heap.lt_size e) hs2) (Nat.ne_of_lt (Heap.lt_size e)) (nlt (Heap.lt_size e) hs1) (old c o e)
  have hkl := hus.length
  have loop : codeAny (model prog w) A (.compLoop (.DictComp kx vx [⟨.Name x px, iter, [], 0⟩] scope pos) 0 (.ref s.heap.objs.size) (.ref H1.objs.size) (compEnvC scope cl H2.objs.size env))
      (compPost (model prog w) A E none Q (.ref H1.objs.size) H2.objs.size) { s with heap := h₁, toks := s.toks + ([] : List (Str × Value)).length } := by
    refine codeAny_compLoop_testsD
      (fun k s' => ∃ h' tk m', ∃ ys : List Value, s' = { s with heap := h', toks := tk } ∧ h'.IsListIter s.heap.objs.size l ys.length ∧ h'.IsList l us.toArray ∧ h'.DictOf (PySem.strKind prog w) H1.objs.size (dictOf (ks.take ys.length) ys) ∧ h'.Ns H2.objs.size m' ∧
        All2 (J h') (ks.take ys.length) ys ∧ ys.length ≤ ks.length ∧ k = ks.length + 1 - ys.length ∧ (∀ c o, c ≠ H2.objs.size → c ≠ s.heap.objs.size → c ≠ H1.objs.size → h₁.get? c = some o → h'.get? c = some o)) ?_ (ks.length + 1)
      ⟨h₁, _, _, [], rfl, hit, hl.at fun o e => old _ o e, hacc, hns₁, by simpa using All2.nil, Nat.zero_le _, rfl, fun _ _ _ _ _ e => e⟩
    rintro k s' ⟨h', tk, m', ys, rfl, hit', hl', hacc', hn', hA, hyl, rfl, hk⟩
    by_cases hlt' : ys.length < ks.length
    · refine W.item ys.length _ _ _ (by rw [List.size_toArray, hkl]; exact hlt') ⟨hit', hl'⟩ fun v h₂ tk₂ hv hst₂ hk₂ => ?_
      obtain ⟨hit₂, hl₂⟩ := hst₂
      obtain ⟨kk, t, rfl, hkk⟩ := strsAt hus (i := ys.length) (v := v) (by simpa using hv)
      have hk₂' : ∀ c o, c ≠ s.heap.objs.size → h'.get? c = some o → h₂.get? c = some o := fun c o hc e => hk₂ c o (by simpa using hc) e
      refine wpAny_assign_Name (wpAny_storeName_local (lookup_relabel_local hx) (hn'.at' fun o e => hk₂' _ o (Ne.symm hI2) e) (fun h₃ hn₃ hs₃ => ?_) (by simp [compEnvC, relabel, hkind]))
      have hs₃' : Heap.SameBut H2.objs.size h₂ h₃ := hs₃
      have hn₃' : h₃.Ns H2.objs.size _ := hn₃
      have up₃ : ∀ c o, c ≠ H2.objs.size → c ≠ s.heap.objs.size → h'.get? c = some o → h₃.get? c = some o := fun c o h1 h2 e => hs₃'.extBut c o h1 (hk₂' c o h2 e)
      refine wpAny_tests_nil ?_
      rw [if_pos rfl]
      refine wpAny_mono (hkey H2.objs.size kk t { s with heap := h₃, toks := tk₂ + 1 } _ (fun _ _ => False) hs2 hn₃' (by simp) (kp _ fun c o h1 h2 h3 e => up₃ c o h1 h2 (hk c o h1 h2 h3 e))) (fun key s₄ h₄ => ?_) fun _ _ e => e.elim
      obtain ⟨⟨t', rfl⟩, h₄, tk₄, rfl, hk₄⟩ := h₄
      refine wpAny_mono (hval H2.objs.size kk t { s with heap := h₄, toks := tk₄ } _ (List.mem_of_getElem? hkk) hs2 (hn₃'.keeps hk₄) (by simp) (kp _ fun c o h1 h2 h3 e => hk₄ c o (up₃ c o h1 h2 (hk c o h1 h2 h3 e)))) (fun y s₅ h₅ => ?_) fun _ _ e => e.elim
      obtain ⟨hy, h₅, tk₅, rfl, hk₅⟩ := h₅
      have hacc₅ : h₅.DictOf (PySem.strKind prog w) H1.objs.size (dictOf (ks.take ys.length) ys) := hacc'.at fun o e => hk₅ _ o (hk₄ _ o (up₃ _ o h12 (Ne.symm hI1) e))
      have hdl : (dictOf (ks.take ys.length) ys).length ≤ sizeLine := by
        refine Nat.le_trans (dictOf_len _ _) ?_
        rw [List.length_nil, Nat.zero_add, List.length_zip]
        exact Nat.le_trans (Nat.min_le_right _ _) (by omega)
      refine wpAny_dictSet_pairs (hsz := hdl) (strKind_is _ _ _ _) hacc₅ fun h₆ hl₆ hs₆ => ?_
      have hlen : (ys ++ [y]).length = ys.length + 1 := by rw [List.length_append, List.length_singleton]
      have kl₆ : ∀ c o, (o.cls = .type "list" ∧ ∃ us n, o.data = .seq us n) → h₅.get? c = some o → h₆.get? c = some o := fun c o hc e => hs₆.extBut c o (fun q => dnl hacc₅ (q ▸ e) hc.2) e
      have kl₃ : ∀ c o, (o.cls = .type "list" ∧ ∃ us n, o.data = .seq us n) → h'.get? c = some o → h₃.get? c = some o := fun c o hc e => up₃ c o (fun q => nsNotList hn' (q ▸ e) hc.2) (fun q => iterNotList hit' (q ▸ e) hc.1) e
      have htk : ks.take (ys.length + 1) = ks.take ys.length ++ [kk] := by rw [List.take_add_one, hkk]; rfl
      have htl : (ks.take ys.length).length = ys.length := by rw [List.length_take]; omega
      refine ⟨ks.length + 1 - (ys.length + 1), by omega, h₆, _, _, ys ++ [y], rfl, ?_, ?_, ?_, ((hn₃'.keeps hk₄).keeps hk₅).sameBut hs₆ (Ne.symm h12), ?_, (by rw [hlen]; exact hlt'), (by rw [hlen]), fun c o h1 h2 h3 e => hs₆.extBut c o h3 (hk₅ c o (hk₄ c o (up₃ c o h1 h2 (hk c o h1 h2 h3 e))))⟩
      · rw [hlen]
        exact (hit₂.at fun o e => hs₃'.extBut _ o hI2 e).at fun o e => hs₆.extBut _ o hI1 (hk₅ _ o (hk₄ _ o e))
      · exact (hl₂.at fun o e => hs₃'.extBut _ o (nlt hlt hs2) e).at fun o e => hs₆.extBut _ o (nlt hlt hs1) (hk₅ _ o (hk₄ _ o e))
      · have e : dictOf (ks.take (ys ++ [y]).length) (ys ++ [y]) = stored (dictOf (ks.take ys.length) ys) kk y := by
          rw [hlen, htk, dictOf, dictOf, List.zip_append htl, List.foldl_append]
          rfl
        rw [e]
        exact hl₆
      · rw [hlen, htk]
        exact (hA.imp fun a b h => hJ _ _ _ _ h fun c o hc e => kl₆ c o hc (hk₅ c o (hk₄ c o (kl₃ c o hc e)))).append (.cons (hJ _ _ _ _ hy kl₆) .nil)
    · have hin : ys.length = ks.length := by omega
      have e0 : us.toArray.size = ys.length := by rw [List.size_toArray, hin]; exact hkl
      refine W.done _ _ _ ⟨by rw [e0]; exact hit', hl'⟩ fun h₂ tk₂ hk₂ => ?_
      have hk₂' : ∀ c o, c ≠ s.heap.objs.size → h'.get? c = some o → h₂.get? c = some o := fun c o hc e => hk₂ c o (by simpa using hc) e
      rw [hin, List.take_length] at hA hacc'
      refine ⟨m', hn'.at' fun o e => hk₂' _ o (Ne.symm hI2) e, fun h₃ hs₃ => ?_⟩
      have hn₂ : h₂.Ns H2.objs.size m' := hn'.at' fun o e => hk₂' _ o (Ne.symm hI2) e
      refine fin _ { s with heap := h₃, toks := tk₂ } ys hs1 ((hacc'.at fun o e => hk₂' _ o (Ne.symm hI1) e).at fun o e => hs₃.extBut _ o h12 e) (hA.imp fun a b h => hJ _ _ _ _ h fun c o hc e =>
        hs₃.extBut c o (fun q => nsNotList hn₂ (by rw [q] at e; exact hk₂' _ o (Ne.symm hI2) e) hc.2) (hk₂' c o (fun q => iterNotList hit' (q ▸ e) hc.1) e))
        (fun c o e => hs₃.extBut c o (nlt (Heap.lt_size e) hs2) (hk₂' c o (Nat.ne_of_lt (Heap.lt_size e)) (hk c o (nlt (Heap.lt_size e) hs2) (Nat.ne_of_lt (Heap.lt_size e)) (nlt (Heap.lt_size e) hs1) (old c o e)))) rfl rfl rfl
  exact codeAny_compStart_dict loop (wpAny_pyIter_listiter hit loop)
end
end Mine
-- part KM
namespace Mine
theorem partKM {M : Model} {A : Around} {v : Value} {Q : Value → Shared → Prop} {E : Value → Shared → Prop} {s : Shared} (h : Q v s) : wpAny M A (pure v : Sem Value) Q E s := by
  w_top off
  first | (walk1; exact h) | exact wpAny_pure h
end Mine
open PySem PySem.W PyProof.Rows PySem.Calls
set_option maxRecDepth 100000
set_option maxHeartbeats 2000000
namespace Mine
section
variable {prog : Program} {w : World} {A : Around} {s : Shared} {env : Env}
/-- The source of a list comprehension that is stored at once is a list. -/
theorem compLstA {l : Addr} {vs : List Value} {elt : Expr} {x y : Str} {ifs : List Expr} {scope : Scope} {cl : List (Str × Addr)} {m : Str → Option Value} {Q : Flow → Shared → Prop} {E : Value → Shared → Prop} {p : Value → Bool} {F : Value → Value → Prop} (hh : A.handled = none) (hl : s.heap.IsList l vs.toArray) (hsz : vs.length ≤ sizeLine) (hn : s.heap.Ns env.locals m)
    (tests : ∀ C (i : Nat) v s₃ m₃ E', s.heap.objs.size ≤ C → vs[i]? = some v → s₃.heap.Ns C m₃ → m₃ x = some v → Keep s.heap s₃.heap →
      wpAny (model prog w) A (forIn ifs true fun c r => if r = true then do let ok ← isTrue c (compEnvC scope cl C env) (eval c (compEnvC scope cl C env)); pure (ForInStep.yield ok) else pure (ForInStep.yield r))
        (fun ok s₄ => ok = p v ∧ Keeps s₃ s₄) E' s₃)
    (helt : ∀ C (i : Nat) v s₃ m₃ E', s.heap.objs.size ≤ C → vs[i]? = some v → p v = true → s₃.heap.Ns C m₃ → m₃ x = some v → Keep s.heap s₃.heap →
      wpAny (model prog w) A (eval elt (compEnvC scope cl C env)) (fun y s₄ => F v y ∧ Keeps s₃ s₄) E' s₃)
    (fin : ∀ D s' ys, s.heap.objs.size ≤ D → s'.heap.PlainList D ys → Paired F (vs.filter p) ys.toList → s'.heap.Ns env.locals (fun z => if z = y then some (.ref D) else m z) → (∀ b o, b ≠ env.locals → s.heap.get? b = some o → s'.heap.get? b = some o) → s'.gens = s.gens → s'.drawn = s.drawn → s'.os = s.os → Q .next s') :
    wpAny (model prog w) A (pyIter (.ref l)) (CompA prog w A env scope cl x y ifs elt p F Q) E s := by
  obtain ⟨ol, hol, rl⟩ := id hl
  have hlt := Heap.lt_size hol
  have hLlt := hn.lt
  have hne : l ≠ s.heap.objs.size := Nat.ne_of_lt hlt
  have hLI : env.locals ≠ s.heap.objs.size := Nat.ne_of_lt hLlt
  have out : ∀ b o, s.heap.get? b = some o → b ∉ [s.heap.objs.size] := fun b o e q => by have := Heap.lt_size e; rw [List.mem_singleton.mp q] at this; exact Nat.lt_irrefl _ this
  have up : ∀ (h' : Heap) (o' : Obj), (∀ b o, b ∉ [s.heap.objs.size] → (s.heap.push o').get? b = some o → h'.get? b = some o) → Keep s.heap h' := fun h' o' hk b o e =>
    hk b o (out b o e) (Heap.get?_push_of_some _ e)
  have sz : ∀ o' : Obj, s.heap.objs.size ≤ (s.heap.push o').objs.size := fun o' => by rw [Heap.size_push]; exact Nat.le_succ _
  refine wpAny_pyIter_list hl ?_
  refine ⟨s.heap.objs.size, [s.heap.objs.size, l], [s.heap.objs.size], _, _, _, _, m, rfl, (Walks.list hh _ l hne vs.toArray).toS, (by simpa using hsz), ⟨⟨_, Heap.get?_push_size _ rfl, rfl, rfl⟩, ⟨ol, Heap.get?_push_of_some _ hol, rl⟩⟩, ?_, fun q => hLI (List.mem_singleton.mp q), hn.at' fun o e => Heap.get?_push_of_some _ e, ⟨?_, ?_⟩, ?_⟩
  · intro b hb
    show b < (s.heap.push _).objs.size
    rw [Heap.size_push]
    rcases List.mem_cons.mp hb with rfl | hb
    · exact Nat.lt_succ_self _
    · rw [List.mem_singleton.mp hb]; exact Nat.lt_succ_of_lt hlt
  · exact fun C i v s₃ m₃ E' hC hP hn hm hk _ => tests C i v s₃ m₃ E' (Nat.le_trans (sz _) hC) (by simpa using hP) hn hm (up _ _ hk)
  · exact fun C i v s₃ m₃ E' hC hP hp hn hm hk _ => helt C i v s₃ m₃ E' (Nat.le_trans (sz _) hC) (by simpa using hP) hp hn hm (up _ _ hk)
  · intro D s' ys vs' hDL hD hpl hlen hP hPair hns hk hG hdr hos
    obtain rfl := told_all (by simpa using hlen) fun j v e => by simpa using hP j v e
    exact fin D s' ys (Nat.le_trans (sz _) hDL) hpl hPair hns (fun b o hb e => hk b o hb (out b o e) (Heap.get?_push_of_some _ e)) hG hdr hos
end
/-- the place x % 4, and the place a road of x leads to -/
def nameAt (z : Int) : Str := names4.getD (Int.fmod z 4).toNat (Str.ofString "")
def wayAt (x size : Int) : Str := nameAt (x + 1 + Int.fmod (Int.fdiv x size) 3)
theorem nameAt_mem (z : Int) : nameAt z ∈ names4 := by
  have h := Int.fmod_lt_of_pos z (b := 4) (by decide)
  have h0 := Int.fmod_nonneg_of_pos z (b := 4) (by decide)
  have hk : (Int.fmod z 4).toNat < names4.length := by show (Int.fmod z 4).toNat < 4; omega
  rw [nameAt, List.getD_eq_getElem?_getD, List.getElem?_eq_getElem hk]
  exact List.getElem_mem hk
theorem nameAt_len (z : Int) : (nameAt z).length ≤ 3 := by
  have h : ∀ x ∈ names4, x.length ≤ 3 := by decide
  exact h _ (nameAt_mem z)
def toldOne (x : Int) : Str := nameAt x ++ Str.ofString "=\"" ++ Txt.replace (Txt.join (Str.ofString ", ") [wayAt x 4, wayAt x 12]) (Str.ofString "\\") (Str.ofString "\\\\") ++ Str.ofString "\""
theorem fmod4 (z : Int) : 0 ≤ Int.fmod z 4 ∧ Int.fmod z 4 < 4 := ⟨Int.fmod_nonneg_of_pos z (by decide), Int.fmod_lt_of_pos z (by decide)⟩
theorem itemNames {prog : Program} {w : World} {A : Around} {E : Value → Shared → Prop} {s : Shared} {value slice : PySem.Expr} {l : Addr} {nv : Array Value} {z : Int} {u : Tok} {Q : Value → Shared → Prop}
    (hl : s.heap.IsList l nv) (hx : StrsAre nv.toList names4) (h : ∀ t, Q (.str (nameAt z) t) s)
    (hs : subscripted slice false (.ref l) (.int (Int.fmod z 4) u) = operate [.ref l, .int (Int.fmod z 4) u] (getItem (.ref l) (.int (Int.fmod z 4) u)) := by with_unfolding_all rfl) :
    wpAny (model prog w) A (subscriptTail value slice (.ref l) (.int (Int.fmod z 4) u)) Q E s := by
  obtain ⟨h0, h4⟩ := fmod4 z
  have hk : (Int.fmod z 4).toNat < names4.length := by show (Int.fmod z 4).toNat < 4; omega
  obtain ⟨t, ht⟩ := strsGet hx (List.getElem?_eq_getElem hk)
  refine tail_any hl.typeIs slot_list_getitem.lookup (wpAny_getItem_list hl h0 (by omega) (by simpa using ht) ?_) hs
  have e : nameAt z = names4[(Int.fmod z 4).toNat] := by rw [nameAt, List.getD_eq_getElem?_getD, List.getElem?_eq_getElem hk]; rfl
  rw [← e]
  exact h t
def mapXs (nums : List Int) : List Int := [12, 25, 6, 7] ++ nums.take 6
def header (nums : List Int) : Str := Txt.join (Str.ofString ", ") ((mapXs nums).map toldOne)
def tableOf (nums : List Int) : List (PyData × PyData) := keqvAt (httpList (header nums)) (httpList (header nums)).length
open PySem.Spec PyProof.V in
def tabAt (nums : List Int) (x : Str) : Str := match lookup (.str x) (tableOf nums) with
  | some (.str v) => v
  | _ => Str.ofString ""
def mapW (nums : List Int) (x : Str) : List Str := httpList (tabAt nums x)
open PySem.Spec PyProof.V in
/-- what the plain law says of the map -/
def MapOk (nums : List Int) : Prop := (httpList (header nums)).length ≤ 100 ∧ (∀ e ∈ httpList (header nums), e.length ≤ 2000 ∧ ∃ kv, keqvOf e = some kv) ∧
  ∀ x ∈ names4, lookup (.str x) (tableOf nums) = some (.str (tabAt nums x)) ∧ (tabAt nums x).length ≤ 2000 ∧ (mapW nums x).length = 2 ∧ ∀ t ∈ mapW nums x, t ∈ names4
theorem replLen : ∀ a ∈ names4, ∀ b ∈ names4, (Txt.replace (Txt.join (Str.ofString ", ") [a, b]) (Str.ofString "\\") (Str.ofString "\\\\")).length ≤ 20 := by decide +kernel
def mapEl (nums : List Int) (h : Heap) (k : Str) (y : Value) : Prop := ∃ a us n, y = .ref a ∧ h.get? a = some { cls := .type "list", data := .seq (List.toArray us) n } ∧ StrsAre us (mapW nums k)
theorem waysOf {prog : Program} {w : World} {nums : List Int} {h : Heap} {D : Addr} {ys : List Value} (hd : h.DictOf (PySem.strKind prog w) D (dictOf names4 ys)) (hA : All2 (mapEl nums h) names4 ys)
    (hok : ∀ x ∈ names4, (mapW nums x).length = 2 ∧ ∀ t ∈ mapW nums x, t ∈ names4) : ∃ U, WaysAre prog w h D (mapW nums) U := by
  unfold names4 at hA
  cases hA with | cons h1 hA =>
  cases hA with | cons h2 hA =>
  cases hA with | cons h3 hA =>
  cases hA with | cons h4 hA =>
  cases hA with | nil =>
  obtain ⟨a1, us1, n1, rfl, g1, s1⟩ := h1
  obtain ⟨a2, us2, n2, rfl, g2, s2⟩ := h2
  obtain ⟨a3, us3, n3, rfl, g3, s3⟩ := h3
  obtain ⟨a4, us4, n4, rfl, g4, s4⟩ := h4
  refine ⟨fun x => if x = Str.ofString "a" then us1 else if x = Str.ofString "ab" then us2 else if x = Str.ofString "b a" then us3 else us4, _, hd, fun x hx => ?_⟩
  have hok' := hok x hx
  simp only [names4, List.mem_cons, List.not_mem_nil, or_false] at hx
  rcases hx with rfl | rfl | rfl | rfl
  · exact ⟨a1, rfl, ⟨_, g1, rfl, n1, rfl⟩, s1, hok'⟩
  · exact ⟨a2, rfl, ⟨_, g2, rfl, n2, rfl⟩, s2, hok'⟩
  · exact ⟨a3, rfl, ⟨_, g3, rfl, n3, rfl⟩, s3, hok'⟩
  · exact ⟨a4, rfl, ⟨_, g4, rfl, n4, rfl⟩, s4, hok'⟩
theorem keepsOf {s s' : Shared} (hk : Keep s.heap s'.heap) (hg : s'.gens = s.gens) (hd : s'.drawn = s.drawn) (ho : s'.os = s.os) : Keeps s s' := by
  refine ⟨s'.heap, s'.toks, ?_, hk⟩
  cases s'
  cases s
  dsimp only at hg hd ho
  subst hg hd ho
  rfl
theorem toldOne_len (z : Int) : (toldOne z).length ≤ 30 := by
  have q0 := nameAt_len z
  have q3 := replLen _ (nameAt_mem (z + 1 + Int.fmod (Int.fdiv z 4) 3)) _ (nameAt_mem (z + 1 + Int.fmod (Int.fdiv z 12) 3))
  have e1 : (Str.ofString "=\"").length = 2 := by decide
  have e2 : (Str.ofString "\"").length = 1 := by decide
  change (Txt.replace (Txt.join (Str.ofString ", ") [wayAt z 4, wayAt z 12]) (Str.ofString "\\") (Str.ofString "\\\\")).length ≤ 20 at q3
  rw [toldOne, Str.length_append, Str.length_append, Str.length_append]
  omega
theorem sumLen {c : Nat} : ∀ l : List Str, (∀ x ∈ l, x.length ≤ c) → (l.map (·.length)).sum ≤ l.length * c
  | [], _ => Nat.zero_le _
  | a :: b, h => by
    have h1 := sumLen b fun x hx => h x (.tail _ hx)
    have h2 := h a (.head _)
    rw [List.map_cons, List.sum_cons, List.length_cons, Nat.succ_mul]
    omega
theorem newsMap2 {hb h : Heap} {L : Addr} {p0 p1 p2 p3 p4 p5 p6 p7 p8 : Addr × Obj} (N : News hb L h [p0, p1, p2, p3, p4, p5, p6, p7, p8]) : News hb L h [p2, p3, p4, p5, p6, p7, p8] := fun p hp => N p (.tail _ (.tail _ hp))
theorem nameInts {vs : List Value} {xs : List Int} (_x : IntsAre vs xs) : ∃ vs', vs' = vs := ⟨vs, rfl⟩
theorem nameList {h : Heap} {l : Addr} {vs : Array Value} (_x : h.IsList l vs) : ∃ l' : Nat, l' = l := ⟨l, rfl⟩
def wayVal (z : Int) (v y : Value) : Prop := ∃ k t u, v = .int k t ∧ y = .str (wayAt z k) u
section
variable {prog : Program} {w : World} {A : Around} {E : Value → Shared → Prop} {s : Shared}
theorem joinK {x : Str} {t : Tok} {D : Addr} {items : Array Value} {ys : List Str} {Q : Value → Shared → Prop} (hl : s.heap.IsList D items) (hi : StrsAre items.toList ys) (hsep : x.length ≤ 16) (hw : (ys.map (·.length)).sum + ys.length ≤ 1048576) (h0 : 1 ≤ s.toks)
    (h : ∀ t' k, 1 ≤ k → (Txt.join x ys).length = (ys.map (·.length)).sum + (ys.length - 1) * x.length → Q (.str (Txt.join x ys) t') { s with toks := k }) : wpAny (model prog w) A (call (.builtin "str.join") [.str x t, .ref D]) Q E s :=
  wpAny_with_toks h0 (join_listW hl hi hsep hw fun t' k hk => h t' k hk (size_glued x ys))
end
def MapJ (hb : Heap) (s₀ : Shared) (l : Nat) (vs : List Value) (xs : List Int) (I : Nat) (i : Nat) (s' : Shared) : Prop :=
  ∃ (aN aT : Nat) (nv : Array Value) (m' : Str → Option Value) (oI oN oX oT : Obj) (us : List Value) (n : Nat) (xX xT : Option Value), Fr hb hb.objs.size s'.heap m' ∧
    News hb hb.objs.size s'.heap [(I, oI), (l, W.listOf vs.toArray 0), (aT, W.listOf us.toArray n), (aN, W.listOf nv 0), (hb.objs.size + 1 + 1 + 1, oT), (hb.objs.size + 1 + 1, oX), (hb.objs.size + 1, oN)] ∧
    (oI.cls = .type "list_iterator" ∧ oI.data = .fields #[.ref l, .int i 0]) ∧ (l < I ∧ aT < l ∧ aN < aT ∧ hb.objs.size + 1 + 1 + 1 < aN) ∧ oN.data = .cell (some (.ref aN)) ∧ oX.data = .cell xX ∧ oT.data = .cell xT ∧
    m' (Str.ofString "told") = some (.ref aT) ∧ StrsAre us ((xs.take i).map toldOne) ∧ StrsAre nv.toList names4 ∧ s'.gens = s₀.gens ∧ s'.drawn = s₀.drawn ∧ s'.os = s₀.os
theorem newsMap {hb h : Heap} {L : Addr} {p0 p1 p2 p3 p4 p5 p6 p7 p8 : Addr × Obj} (N : News hb L h [p0, p1, p2, p3, p4, p5, p6, p7, p8]) : News hb L h [p0, p1, p4, p5, p6, p7, p8] := fun p hp => N p (by
  simp only [List.mem_cons, List.not_mem_nil, or_false] at hp ⊢
  rcases hp with h | h | h | h | h | h | h
  · exact .inl h
  · exact .inr (.inl h)
  · exact .inr (.inr (.inr (.inr (.inl h))))
  · exact .inr (.inr (.inr (.inr (.inr (.inl h)))))
  · exact .inr (.inr (.inr (.inr (.inr (.inr (.inl h))))))
  · exact .inr (.inr (.inr (.inr (.inr (.inr (.inr (.inl h)))))))
  · exact .inr (.inr (.inr (.inr (.inr (.inr (.inr (.inr h))))))))
local macro_rules | `(tactic| walk_at "eval Name") => `(tactic| (walk_at "mine name"))
local macro_rules | `(tactic| walk_at "subscriptTail Name BinOp ref int") => `(tactic| (k_here; (with_reducible show wpAny _ _ (subscriptTail _ _ (Value.ref _) (Value.int (Int.fmod _ 4) _)) _ _ _); k_dflt (refine' itemNames ?k1 ?k2 ?_ ?k6; (case k1 => exact News.isList (by k_asm) (by k_mem)); (case k2 => assumption); (case k6 => with_unfolding_all rfl); k_whole); intro t'))
local macro_rules | `(tactic| walk_at "call builtin:str.join") => `(tactic| (k_here; (with_reducible show wpAny _ _ (call (Value.builtin "str.join") [Value.str _ _, Value.ref _]) _ _ _); k_dflt (refine' joinK ?l ?i ?s ?w ?o ?_; (case l => exact News.isList (by k_asm) (by k_mem)); (case i => first | assumption | exact .cons _ _ (.cons _ _ .nil)); (case s => decide); (case w => first | assumption | (simp only [List.map_cons, List.map_nil, List.sum_cons, List.sum_nil, List.length_cons, List.length_nil]; omega)); (case o => ((try dsimp only); omega))); intro t' k' hk1 hk2; (try simp only [List.map_cons, List.map_nil, List.sum_cons, List.sum_nil, List.length_cons, List.length_nil] at hk2)))
local macro_rules | `(tactic| walk_at "call builtin:str.replace") => `(tactic| (k_here; (with_reducible show wpAny _ _ (call (Value.builtin "str.replace") _) _ _ _); k_dflt (refine' SC.replaceW ?a ?b ?c ?d ?e ?f ?_; (case a => (refine neN ?_; (try dsimp only); omega)); (case b => (refine neN ?_; (try dsimp only); omega)); (case c => (refine neN ?_; (try dsimp only); omega)); (case d => decide); (case e => omega); (case f => decide)); intro t' k'))
local macro_rules | `(tactic| walk_at "call builtin:list.append") => `(tactic| (walk_at "mine append"))
local macro_rules | `(tactic| walk_at "exec For Name BinOp cons nil") => `(tactic| (k_here; refine Halt.of ?_))
local macro_rules | `(tactic| walk_at "eval ListComp") => `(tactic| (k_here; refine Halt.of ?_))
local macro_rules | `(tactic| walk_at "eval DictComp") => `(tactic| (k_here; refine Halt.of ?_))
local macro_rules | `(tactic| walk_at "exec Assign cons ListComp") => `(tactic| (k_here; refine Halt.of ?_))
local macro_rules | `(tactic| walk_at "call ref") => `(tactic| (k_here; refine Halt.of ?_))
section
variable {w : World} {dp un : Nat} {fr : Option (List Env)} {gd : Option (List Code)} {s : Shared} {mean : ExcName → Option Value} {mg mb : Str → Option Value}
theorem c_map {R : Result → Shared → Prop} {sc : Addr} {vals : List Value} {nums : List Int} (X : (hd.heap_39 w.params).In s.heap) (T : Top hd.view_39 (looseW hd.view_39 []) mean mg mb s.heap) (hroom : dp + 200 < recursionLimit) (hu : un + 2000 < cLine)
    (hL : s.heap.IsList sc vals.toArray) (hI : IntsAre vals nums) (h63 : nums.length ≤ 63) (hok : MapOk nums)
    (h : ∀ a s', (∃ U, WaysAre PySem.Challenge.rw_kl0414_01.row.prog w s'.heap a (mapW nums) U) → Keep s.heap s'.heap → s'.gens = s.gens → s'.drawn = s.drawn → s'.os = s.os → R (.ok (.ret (.ref a))) s') :
    codeAny (model PySem.Challenge.rw_kl0414_01.row.prog w) (Around.mk none dp fr gd un) (.call (.ref 66) ⟨[.ref sc], []⟩) R s := by
  revert X; k_fill; intro X
  refine' callBC (binds := [(Str.ofString "script", .ref sc)]) ?k1 ?k2 ?k3 ?k6 ?k7 ?k9 ?kB ?kD ?_ ?c2 ?c3 ?c4
  case k1 => exact X
  case k2 => exact T.nolimit
  case k3 => (try dsimp only); omega
  case k6 => k_is
  case k7 => k_is
  case k9 => exact rfl
  case kB => exact rfl
  case kD => decide +kernel
  case c2 => exact rfl
  case c3 => exact rfl
  case c4 => exact rfl
  intro h₁ tk cells F N Y
  k_cells Y
  try dsimp only
  k_steps
  refine Halt.go ?_
  refine' For_J ?_
  k_steps
  with_reducible rename IntsAre _ _ => hXs
  with_reducible rename News _ _ _ _ => kN
  with_reducible rename Fr _ _ _ _ => kF
  have hxl : ([12, 25, 6, 7] ++ List.take 6 nums).length ≤ 10 := by rw [List.length_append, List.length_take]; show 4 + min 6 nums.length ≤ 10; omega
  have hvl := hXs.length
  generalize hxs : ([12, 25, 6, 7] ++ List.take 6 nums) = xs at hXs hxl hvl
  have hlst := News.isList kN (.head _)
  obtain ⟨l, hle⟩ := nameList hlst
  subst hle
  obtain ⟨vs, hve⟩ := nameInts hXs
  subst hve
  refine forLst (MapJ s.heap s l vs xs) rfl hlst ?_ ?_ ?_ ?_
  · have NP := News.push kF kN { cls := .type "list_iterator", data := .fields #[.ref l, .int 0 0] } rfl
    have hlI := Heap.lt_size (kN _ (.head _)).1
    refine ⟨_, _, _, _, _, _, _, _, [], 0, _, _, kF.push _, newsMap NP, ⟨rfl, rfl⟩, ?_, ‹_›, ‹_›, ‹_›, rfl, .nil, .cons _ _ (.cons _ _ (.cons _ _ (.cons _ _ .nil))), rfl, rfl, rfl⟩
    refine ⟨hlI, ?_, ?_, ?_⟩ <;> omega
  · rintro I i s' ⟨aN, aT, nv, m', oI, oN, oX, oT, us, n, xX, xT, F', N', hI, _⟩
    exact ⟨⟨oI, (N' _ (.head _)).1, hI⟩, News.isList N' (.tail _ (.head _))⟩
  · clear kN kF hlst
    rintro I i s' v h' tk' hv ⟨aN, aT, nv, m', oI, oN, oX, oT, us, n, xX, xT, F', N', hI, ho, dN, dX, dT, hm, hST, hnv, hg, hdr, hos⟩ ⟨oI', hI', hI2⟩ hk
    obtain ⟨F₁, N₁⟩ := moveI F' N' (by intro p hp; simp only [List.mem_cons, List.not_mem_nil, or_false] at hp; rcases hp with rfl | rfl | rfl | rfl | rfl | rfl <;> k_ne) hI' hk
    clear F' N' hk
    replace F₁ := Fr.known0 F₁ hm
    obtain ⟨z, t, rfl, hz⟩ : ∃ z t, v = .int z t ∧ xs[i]? = some z := by
      obtain ⟨k, t, e, hk⟩ := IntsAre.at hXs i v hv
      exact ⟨k, t, e, hk⟩
    k_steps
    refine Halt.go ?_
    refine' assignComp_S (fun _ => true) (wayVal z) ?a1 ?a2 ?a3 ?a4 ?a5 ?a6 ?a7 ?a8 ?_
    case a1 => with_unfolding_all rfl
    case a2 => with_unfolding_all rfl
    case a3 => decide
    case a4 => rfl
    case a5 => decide
    case a6 => rfl
    case a7 => rfl
    case a8 => rfl
    k_steps
    with_reducible rename News _ _ _ _ => kN
    with_reducible rename Fr _ _ _ _ => kF
    have hl4 := News.isList kN (.head _)
    refine compLstA (vs := [.int 4 _, .int 12 _]) rfl (by exact hl4) (Nat.le_of_ble_eq_true rfl) kF.ns ?_ ?_ ?_
    · rintro C j v s₃ m₃ E' hC hv hn hm hk
      exact wpAny_tests_nil ⟨rfl, _, _, rfl, fun _ _ e => e⟩
    · rintro C j v s₃ m₃ E' hC hv _ hn hm hk
      obtain ⟨FC, NC⟩ := compFrK kF kN hC hn hk
      have hlN := News.isList NC (.tail _ (.tail _ (.tail _ (.tail _ (.head _)))))
      clear kF kN hl4
      have hv' : ∃ k t, v = .int k t ∧ (k = 4 ∨ k = 12) := by
        rcases j with _ | _ | j <;> simp at hv <;> subst hv
        · exact ⟨_, _, rfl, .inl rfl⟩
        · exact ⟨_, _, rfl, .inr rfl⟩
      obtain ⟨k, tk', rfl, hk4⟩ := hv'
      replace FC := Fr.known0 FC hm
      rcases hk4 with rfl | rfl
      all_goals k_steps
      · exact ⟨_, _, _, rfl, rfl⟩
      · exact ⟨_, _, rfl, fun _ _ e => e⟩
      · exact ⟨_, _, _, rfl, rfl⟩
      · exact ⟨_, _, rfl, fun _ _ e => e⟩
    · intro D s₅ ys hDL hpl hPair hns hk hg₅ hdr₅ hos₅
      obtain ⟨ys⟩ := ys
      rw [List.filter_eq_self.mpr (fun _ _ => rfl)] at hPair
      cases hPair with | cons h1 hPair =>
      cases hPair with | cons h2 hPair =>
      cases hPair with | nil =>
      obtain ⟨_, _, u1, e1, rfl⟩ := h1
      obtain ⟨_, _, u2, e2, rfl⟩ := h2
      cases e1
      cases e2
      have F₂ : Fr s.heap s.heap.objs.size s₅.heap _ := ⟨hns, fun b o e => hk b o (Nat.ne_of_lt (Heap.lt_size e)) (kF.keep b o e), Nat.le_refl _⟩
      have N₂ : News s.heap s.heap.objs.size s₅.heap [_, _, _, _, _, _, _, _] := fun p hp => ⟨hk _ _ (kN p hp).2.1 (kN p hp).1, (kN p hp).2⟩
      obtain ⟨nD, hpl⟩ := hpl
      have N₃ := News.more F₂ N₂ hpl (fun _ _ q => by cases q) (noneOf kF.keep hDL)
      have hD1 := Nat.lt_of_lt_of_le (Heap.lt_size (kN _ (.head _)).1) hDL
      clear hns hpl hk kF kN N₂ hl4
      dsimp only at hD1
      have q0 := nameAt_len z
      have q1 : (wayAt z 4).length ≤ 3 := nameAt_len _
      have q2 : (wayAt z 12).length ≤ 3 := nameAt_len _
      have q3 := replLen _ (nameAt_mem (z + 1 + Int.fmod (Int.fdiv z 4) 3)) _ (nameAt_mem (z + 1 + Int.fmod (Int.fdiv z 12) 3))
      have q4 : (Str.ofString ", ").length = 2 := by decide
      change (Txt.replace (Txt.join (Str.ofString ", ") [wayAt z 4, wayAt z 12]) (Str.ofString "\\") (Str.ofString "\\\\")).length ≤ 20 at q3
      have q5 : us.length ≤ 10 := by rw [hST.length, List.length_map, List.length_take]; omega
      k_steps
      · exact .inl rfl
      · refine' ⟨aN, aT, nv, _, oI', oN, _, oT, _, _, _, xT, ‹Fr _ _ _ _›, newsMap2 ‹News _ _ _ _›, hI2, ho, dN, ‹Obj.data _ = .cell (some (.int _ _))›, dT, ?m1, ?st, hnv, hg₅.trans hg, hdr₅.trans hdr, hos₅.trans hos⟩
        case m1 => exact (if_neg (by decide)).trans (if_pos rfl)
        case st =>
          rw [List.take_add_one, hz, Option.toList_some, List.map_append]
          exact kct_snoc hST
  · clear kN kF hlst
    rintro I s' h' tk' ⟨aN, aT, nv, m', oI, oN, oX, oT, us, n, xX, xT, F', N', hI, ho, dN, dX, dT, hm, hST, hnv, hg, hdr, hos⟩ hk
    obtain ⟨F₁, N₁⟩ := moveOff F' N' (by intro p hp; simp only [List.mem_cons, List.not_mem_nil, or_false] at hp; rcases hp with rfl | rfl | rfl | rfl | rfl | rfl <;> k_ne) hk
    clear F' N' hk
    replace F₁ := Fr.known0 F₁ hm
    rw [hvl, List.take_length] at hST
    have hsum := sumLen (c := 30) (xs.map toldOne) (by intro x hx; obtain ⟨z, _, rfl⟩ := List.mem_map.mp hx; exact toldOne_len z)
    rw [List.length_map] at hsum
    have hsum2 : ((xs.map toldOne).map (·.length)).sum + (xs.map toldOne).length ≤ 1048576 := by rw [List.length_map]; omega
    have q4 : (Str.ofString ", ").length = 2 := by decide
    have q5 : us.length ≤ 10 := by rw [hST.length, List.length_map]; omega
    k_steps
    refine Halt.go ?_
    with_reducible rename Fr _ _ _ _ => kF
    with_reducible rename News _ _ _ _ => kN
    rename (Txt.join _ _).length = _ => hjl
    rw [List.length_map, q4] at hjl
    have hhd : Txt.join (Str.ofString ", ") (xs.map toldOne) = header nums := by rw [header, mapXs, hxs]
    rw [hhd] at hjl ⊢
    refine' wpAny_call (c_http (Frag.In.keeps X kF.keep) (Top.keeps T kF.keep) ?r1 ?u1 ?hx ?_)
    case r1 => (try dsimp only [Around.deeper]); omega
    case u1 => (try dsimp only [Around.deeper]); omega
    case hx => omega
    intro a1 s₅ us1 hK1 hn1 hpl1 hS1 hg1 hdr1 hos1
    obtain ⟨n1, hpl1⟩ := hpl1
    have F₅ := kF.kept hK1
    have N₅ := newsAdd kF kN hK1 hpl1 hn1
    (try dsimp only at hg1 hdr1 hos1)
    have hn4 : @Ne Nat (s.heap.objs.size + 1 + 1 + 1) a1 := newsNe kN hn1 (s.heap.objs.size + 1 + 1 + 1, _) (.tail _ (.tail _ (.tail _ (.head _))))
    clear kF kN hK1 hpl1 hn1 hsum hsum2 hST q5
    k_steps
    refine Halt.go ?_
    with_reducible rename Fr _ _ _ _ => kF
    with_reducible rename News _ _ _ _ => kN
    obtain ⟨hok1, hok2, hok3⟩ := hok
    refine' wpAny_call (c_keqv (es := httpList (header nums)) (Frag.In.keeps X kF.keep) (Top.keeps T kF.keep) ?r1 (News.isList kN (.head _)) hS1 hok1 hok2 ?_)
    case r1 => (try dsimp only [Around.deeper]); omega
    intro a2 s₆ oD kvs hK2 hn2 hget2 hsys hdict hflat hg2 hdr2 hos2
    have F₆ := kF.kept hK2
    have N₆ := newsAdd kF kN hK2 hget2 hn2
    have hne2 := newsNe kN hn2
    (try dsimp only at hg2 hdr2 hos2)
    have hn3 : @Ne Nat (s.heap.objs.size + 1 + 1 + 1) a2 := hne2 (s.heap.objs.size + 1 + 1 + 1, _) (.tail _ (.tail _ (.tail _ (.tail _ (.head _)))))
    clear kF kN hK2 hget2 hn2 hne2
    try dsimp only
    k_steps
    with_reducible rename Fr _ _ _ _ => kF
    with_reducible rename News _ _ _ _ => kN
    refine Halt.go ?_
    refine' dictComp_L ?a1 ?a2 ?a3 ?_
    case a1 => with_unfolding_all rfl
    case a2 => rfl
    case a3 => decide
    k_steps
    have hlN := News.isList kN (.tail _ (.tail _ (.tail _ (.tail _ (.head _)))))
    have hnl4 : nv.toList.length ≤ sizeLine := by rw [hnv.length, sizeLine_eq]; decide
    refine compDict (us := nv.toList) (ks := names4) (mapEl nums) rfl (by simpa using hlN) hnv hnl4 ?_ (by decide) rfl rfl ?_ ?_ ?_
    · rintro h h' k y ⟨a, us, n, e, hg, hs⟩ hk
      exact ⟨a, us, n, e, hk _ _ ⟨rfl, _, _, rfl⟩ hg, hs⟩
    · intro C k t s₂ m₂ E' hC hn₂ hm₂ hk₂
      exact wpAny_Name (wpAny_loadName_local rfl rfl hn₂ hm₂ ⟨⟨_, rfl⟩, _, _, rfl, fun _ _ e => e⟩) (by decide)
    · intro C k t s₂ m₂ hk4 hC hn₂ hm₂ hk₂
      obtain ⟨hlook, htl, _⟩ := hok3 k hk4
      obtain ⟨FC, NC⟩ := compFrK kF kN hC hn₂ hk₂
      replace FC := Fr.known0 FC hm₂
      have hmw : mapW nums k = httpList (tabAt nums k) := rfl
      have hflat' : PyProof.V.FlatPairs PyData.str kvs (tableOf nums) := hflat
      generalize tableOf nums = TT at hlook hflat'
      generalize tabAt nums k = tv at hlook htl hmw
      clear kF kN hlN hflat hok3 hok1 hok2 hjl hhd hxs hS1 hXs hvl hxl
      k_steps
      refine Halt.go ?_
      refine' wpAny_call (c_http (Frag.In.keeps X FC.keep) (Top.keeps T FC.keep) ?r1 ?u1 htl ?_)
      case r1 => (try dsimp only [Around.deeper]); omega
      case u1 => (try dsimp only [Around.deeper]); omega
      intro a3 s₈ us3 hK3 hn5 hpl3 hS3 hg3 hdr3 hos3
      obtain ⟨n3, hpl3⟩ := hpl3
      exact ⟨⟨a3, us3, n3, rfl, hpl3, by rw [hmw]; exact hS3⟩, keepsOf hK3 hg3 hdr3 hos3⟩
    · intro D s₇ ys hDL hd hA hK hg₇ hdr₇ hos₇
      exact h D s₇ (waysOf hd hA fun x hx => (hok3 x hx).2.2) (fun b o e => hK b o (kF.keep b o e)) (hg₇.trans (hg2.trans (hg1.trans hg))) (hdr₇.trans (hdr2.trans (hdr1.trans hdr))) (hos₇.trans (hos2.trans (hos1.trans hos)))
end
end Mine
-- part KS
namespace Mine
theorem partKS {M : Model} {A : Around} {v : Value} {Q : Value → Shared → Prop} {E : Value → Shared → Prop} {s : Shared} (h : Q v s) : wpAny M A (pure v : Sem Value) Q E s := by
  w_top off
  first | (walk1; exact h) | exact wpAny_pure h
end Mine
open PySem PySem.W PyProof.Rows PySem.Calls
set_option maxRecDepth 100000
set_option maxHeartbeats 2000000
namespace Mine
/-- the place k of an order of places -/
def At (p : Array Nat) (k : Nat) : Nat := p.getD k 0
/-- an order of the places below N -/
def Good (N : Nat) (p : Array Nat) : Prop := p.size = N ∧ p.toList.Perm (List.range N)
theorem Good.lt {N : Nat} {p : Array Nat} (g : Good N p) (hN : 0 < N) (k : Nat) : At p k < N := by
  unfold At
  rw [Array.getD_eq_getD_getElem?]
  by_cases h : k < p.size
  · rw [getElem?_pos p k h]
    have hm : p[k] ∈ p.toList := by simp
    exact List.mem_range.mp (g.2.mem_iff.mp hm)
  · rw [getElem?_neg p k h]; exact hN
theorem At_of {p q : Array Nat} {i j : Nat} (h : p[i]? = q[j]?) : At p i = At q j := by
  unfold At
  rw [Array.getD_eq_getD_getElem?, Array.getD_eq_getD_getElem?, h]
theorem At_rev {p : Array Nat} {i j : Nat} (hj : j ≤ p.size) (k : Nat) : At (kas_rev p i j) k = if i ≤ k ∧ k < j then At p (i + j - 1 - k) else At p k := by
  have e := getElem?_mirror_all (i := i) hj k
  by_cases h1 : i ≤ k ∧ k < j
  · rw [if_pos h1] at e ⊢; exact At_of e
  · rw [if_neg h1] at e ⊢; exact At_of e
theorem At_bubble {p : Array Nat} {src d : Nat} (hs : src < p.size) (hd : d ≤ src) (k : Nat) : At (bubble p src d) k = if k = src - d then At p src else if src - d < k ∧ k ≤ src then At p (k - 1) else At p k := by
  have e := getElem?_bubble hs d hd k
  by_cases h1 : k = src - d
  · rw [if_pos h1] at e ⊢; exact At_of e
  · rw [if_neg h1] at e ⊢
    by_cases h2 : src - d < k ∧ k ≤ src
    · rw [if_pos h2] at e ⊢; exact At_of e
    · rw [if_neg h2] at e ⊢; exact At_of e
theorem Good.rev {N : Nat} {p : Array Nat} (g : Good N p) (i j : Nat) : Good N (kas_rev p i j) := ⟨(mirror_size _ _ _ _).trans g.1, (mirror_perm p i j _).toList.trans g.2⟩
theorem Good.bubble {N : Nat} {p : Array Nat} (g : Good N p) (i j : Nat) : Good N (bubble p i j) := ⟨(bubble_size _ _ _).trans g.1, (bubble_perm p i j).toList.trans g.2⟩
theorem Good.range (N : Nat) : Good N (List.toArray (List.range N)) := ⟨by simp, by simp⟩
section
variable {N : Nat} {lt : Nat → Nat → Bool} (htr : ∀ a b c, lt b a = false → lt c b = false → lt c a = false) (hto : ∀ a b, lt a b = true → lt b a = false)
def SortTo (lt : Nat → Nat → Bool) (p : Array Nat) (m : Nat) : Prop := ∀ i, i + 1 < m → lt (At p (i + 1)) (At p i) = false
def DescTo (lt : Nat → Nat → Bool) (p : Array Nat) (m : Nat) : Prop := ∀ i, i + 1 < m → lt (At p i) (At p (i + 1)) = false
def Eqv (lt : Nat → Nat → Bool) (a b : Nat) : Prop := lt a b = false ∧ lt b a = false
include hto in
theorem irr (a : Nat) : lt a a = false := by
  cases h : lt a a with
  | false => rfl
  | true => rw [hto a a h] at h; cases h
include htr in
theorem Eqv.trans {a b c : Nat} (x : Eqv lt a b) (y : Eqv lt b c) : Eqv lt a c := ⟨htr c b a y.1 x.1, htr a b c x.2 y.2⟩
theorem Eqv.symm {a b : Nat} (x : Eqv lt a b) : Eqv lt b a := ⟨x.2, x.1⟩
include htr in
theorem le_cong {a a' b b' : Nat} (x : Eqv lt a a') (y : Eqv lt b b') (h : lt b a = false) : lt b' a' = false := htr a' b b' (htr a' a b x.1 h) y.2
include htr hto in
theorem SortTo.all {p : Array Nat} {m : Nat} (h : SortTo lt p m) {i : Nat} : ∀ {j : Nat}, i ≤ j → j < m → lt (At p j) (At p i) = false
  | 0, h1, _ => by rw [Nat.le_zero.mp h1]; exact irr hto _
  | j + 1, h1, h2 => by
    by_cases e : i = j + 1
    · rw [e]; exact irr hto _
    · exact htr _ _ _ (SortTo.all h (j := j) (by omega) (by omega)) (h j h2)
include htr hto in
theorem DescTo.all {p : Array Nat} {m : Nat} (h : DescTo lt p m) {i : Nat} : ∀ {j : Nat}, i ≤ j → j < m → lt (At p i) (At p j) = false
  | 0, h1, _ => by rw [Nat.le_zero.mp h1]; exact irr hto _
  | j + 1, h1, h2 => by
    by_cases e : i = j + 1
    · rw [e]; exact irr hto _
    · exact htr _ _ _ (h j h2) (DescTo.all h (j := j) (by omega) (by omega))
include hto in
theorem Eqv.refl (a : Nat) : Eqv lt a a := ⟨irr hto a, irr hto a⟩
include htr hto in
theorem rev_eqv {p : Array Nat} {a b : Nat} (hb : b ≤ p.size) (h : ∀ i, a ≤ i → i < b → Eqv lt (At p i) (At p (b - 1))) (k : Nat) : Eqv lt (At p k) (At (kas_rev p a b) k) := by
  rw [At_rev hb]
  by_cases hk : a ≤ k ∧ k < b
  · rw [if_pos hk]
    exact (h k hk.1 hk.2).trans htr (h (a + b - 1 - k) (by omega) (by omega)).symm
  · rw [if_neg hk]; exact Eqv.refl hto _
include htr in
theorem DescTo.cong {p q : Array Nat} {m : Nat} (h : DescTo lt p m) (e : ∀ k, Eqv lt (At p k) (At q k)) : DescTo lt q m := fun i hi => le_cong htr (e (i + 1)) (e i) (h i hi)

variable {cmp : Nat → Nat → (Bool → Shared → Prop) → Shared → Prop} {Inv : Shared → Prop} (hcmp : ∀ i j C s, i < N → j < N → Inv s → (∀ s', Inv s' → C (lt i j) s') → cmp i j C s) (hN : 0 < N)
include hcmp hN in
theorem asc_ok {p : Array Nat} (g : Good N p) : ∀ (f n : Nat) (s : Shared) (Q : Nat → Shared → Prop), Inv s →
    (∀ m s', n ≤ m → m ≤ n + f → (∀ i, n ≤ i → i < m → lt (At p i) (At p (i - 1)) = false) → (m < n + f → lt (At p m) (At p (m - 1)) = true) → Inv s' → Q m s') → (kas_asc p f n).kasWp cmp Q s
  | 0, n, s, Q, hs, h => h n s (Nat.le_refl _) (Nat.le_refl _) (fun i h1 h2 => absurd h2 (Nat.not_lt.mpr h1)) (fun x => absurd x (Nat.lt_irrefl _)) hs
  | f + 1, n, s, Q, hs, h => by
    refine hcmp _ _ _ s (g.lt hN n) (g.lt hN (n - 1)) hs fun s' hs' => ?_
    cases hc : lt (At p n) (At p (n - 1)) with
    | true =>
      have hc' : lt (p.getD n 0) (p.getD (n - 1) 0) = true := hc
      rw [hc']
      dsimp only
      rw [if_pos (rfl : true = true)]
      exact h n s' (Nat.le_refl _) (by omega) (fun i h1 h2 => absurd h2 (Nat.not_lt.mpr h1)) (fun _ => hc) hs'
    | false =>
      have hc' : lt (p.getD n 0) (p.getD (n - 1) 0) = false := hc
      rw [hc']
      dsimp only
      rw [if_neg Bool.false_ne_true]
      refine asc_ok g f (n + 1) s' Q hs' fun m s'' h1 h2 h3 h4 hs'' => h m s'' (by omega) (by omega) (fun i hi1 hi2 => ?_) (fun hm => h4 (by omega)) hs''
      by_cases e : i = n
      · rw [e]; exact hc
      · exact h3 i (by omega) hi2
include htr hto hcmp hN in
theorem desc_ok : ∀ (f : Nat) (p : Array Nat) (n q : Nat) (s : Shared) (Q : Array Nat × Nat × Nat → Shared → Prop), Good N p → 1 ≤ n → n + f ≤ N → q + 1 ≤ n → DescTo lt p n → (∀ i, n - (q + 1) ≤ i → i < n → Eqv lt (At p i) (At p (n - 1))) → Inv s →
    (∀ p' n' q' s', Good N p' → n ≤ n' → n' ≤ n + f → q' + 1 ≤ n' → DescTo lt p' n' → (∀ i, n' - (q' + 1) ≤ i → i < n' → Eqv lt (At p' i) (At p' (n' - 1))) → Inv s' → Q (p', n', q') s') → (kas_desc f p n q).kasWp cmp Q s
  | 0, p, n, q, s, Q, g, h1, hn, hq, hd, hr, hs, h => h p n q s g (Nat.le_refl _) (Nat.le_refl _) hq hd hr hs
  | f + 1, p, n, q, s, Q, g, h1, hn, hq, hd, hr, hs, h => by
    refine hcmp _ _ _ s (g.lt hN n) (g.lt hN (n - 1)) hs fun s' hs' => ?_
    cases hc : lt (At p n) (At p (n - 1)) with
    | true =>
      have hc' : lt (p.getD n 0) (p.getD (n - 1) 0) = true := hc
      rw [hc']
      dsimp only
      rw [if_pos (rfl : true = true)]
      have hle := hto _ _ hc
      have go : ∀ p', Good N p' → (∀ k, Eqv lt (At p k) (At p' k)) → (kas_desc f p' (n + 1) 0).kasWp cmp Q s' := by
        intro p' g' he
        refine desc_ok f p' (n + 1) 0 s' Q g' (by omega) (by omega) (by omega) (fun i hi => ?_) (fun i hi1 hi2 => ?_) hs' fun p'' n' q' s'' a1 a2 a3 a4 a5 a6 a7 => h p'' n' q' s'' a1 (by omega) (by omega) a4 a5 a6 a7
        · by_cases e : i + 1 < n
          · exact hd.cong htr he i e
          · have e2 : i = n - 1 := by omega
            have e3 : i + 1 = n := by omega
            rw [e3, e2]
            exact le_cong htr (he n) (he (n - 1)) hle
        · have e : i = n + 1 - 1 := by omega
          rw [e]; exact Eqv.refl hto _
      by_cases hq0 : q > 0
      · rw [if_pos hq0]
        exact go _ (g.rev _ _) fun k => rev_eqv htr hto (by rw [g.1]; omega) hr k
      · rw [if_neg hq0]
        exact go _ g fun k => Eqv.refl hto _
    | false =>
      have hc' : lt (p.getD n 0) (p.getD (n - 1) 0) = false := hc
      rw [hc']
      dsimp only
      rw [if_neg Bool.false_ne_true]
      refine hcmp _ _ _ s' (g.lt hN (n - 1)) (g.lt hN n) hs' fun s'' hs'' => ?_
      cases hc2 : lt (At p (n - 1)) (At p n) with
      | true =>
        have hc2' : lt (p.getD (n - 1) 0) (p.getD n 0) = true := hc2
        rw [hc2']
        dsimp only
        rw [if_pos (rfl : true = true)]
        exact h p n q s'' g (Nat.le_refl _) (by omega) hq hd hr hs''
      | false =>
        have hc2' : lt (p.getD (n - 1) 0) (p.getD n 0) = false := hc2
        rw [hc2']
        dsimp only
        rw [if_neg Bool.false_ne_true]
        have eqn : Eqv lt (At p n) (At p (n - 1)) := ⟨hc, hc2⟩
        refine desc_ok f p (n + 1) (q + 1) s'' Q g (by omega) (by omega) (by omega) (fun i hi => ?_) (fun i hi1 hi2 => ?_) hs'' fun p'' n' q' s3 a1 a2 a3 a4 a5 a6 a7 => h p'' n' q' s3 a1 (by omega) (by omega) a4 a5 a6 a7
        · by_cases e : i + 1 < n
          · exact hd i e
          · have e2 : i = n - 1 := by omega
            have e3 : i + 1 = n := by omega
            rw [e3, e2]; exact hc2
        · have e0 : n + 1 - 1 = n := by omega
          rw [e0]
          by_cases e : i = n
          · rw [e]; exact Eqv.refl hto _
          · exact (hr i (by omega) (by omega)).trans htr eqn.symm
include htr hto hcmp hN in
theorem tail3_ok {p : Array Nat} {n : Nat} {s : Shared} {Q : Nat × Array Nat → Shared → Prop} (g : Good N p) (h1 : 1 ≤ n) (hn : n ≤ N) (hd : DescTo lt p n) (hs : Inv s)
    (h : ∀ m p' s', Good N p' → 1 ≤ m → m ≤ N → SortTo lt p' m → Inv s' → Q (m, p') s') : (kas_tail3 n N p).kasWp cmp Q s := by
  unfold kas_tail3
  rw [KasT.kasWp_bind]
  have g' := g.rev 0 n
  have hA : ∀ k, k < n → At (kas_rev p 0 n) k = At p (n - 1 - k) := fun k hk => by
    rw [At_rev (by rw [g.1]; exact hn), if_pos ⟨Nat.zero_le _, hk⟩]
    congr 1
    omega
  have hsn : ∀ i, i + 1 < n → lt (At (kas_rev p 0 n) (i + 1)) (At (kas_rev p 0 n) i) = false := fun i hi => by
    rw [hA _ hi, hA i (by omega)]
    have := hd (n - 1 - (i + 1)) (by omega)
    have e : n - 1 - (i + 1) + 1 = n - 1 - i := by omega
    rwa [e] at this
  refine asc_ok hcmp hN g' (N - n) n s _ hs fun m s' h2 h3 h4 _ hs' => ?_
  refine h m _ s' g' (by omega) (by omega) (fun i hi => ?_) hs'
  by_cases e : i + 1 < n
  · exact hsn i e
  · exact h4 (i + 1) (by omega) hi
include htr hto hcmp hN in
theorem descPart_ok {p : Array Nat} {n : Nat} {s : Shared} {Q : Nat × Array Nat → Shared → Prop} (g : Good N p) (hn : n + 1 ≤ N) (hd : DescTo lt p (n + 1)) (hs : Inv s)
    (h : ∀ m p' s', Good N p' → 1 ≤ m → m ≤ N → SortTo lt p' m → Inv s' → Q (m, p') s') : (kas_descPart n N p).kasWp cmp Q s := by
  unfold kas_descPart
  rw [KasT.kasWp_bind]
  refine desc_ok htr hto hcmp hN (N - (n + 1)) p (n + 1) 0 s _ g (by omega) (by omega) (by omega) hd (fun i hi1 hi2 => ?_) hs fun p' n' q' s' g' h1 h2 h3 h4 h5 hs' => ?_
  · have e : i = n + 1 - 1 := by omega
    rw [e]; exact Eqv.refl hto _
  · dsimp only
    by_cases hq : q' > 0
    · rw [if_pos hq]
      exact tail3_ok htr hto hcmp hN (g'.rev _ _) (by omega) (by omega) (h4.cong htr fun k => rev_eqv htr hto (by rw [g'.1]; omega) h5 k) hs' h
    · rw [if_neg hq]
      exact tail3_ok htr hto hcmp hN g' (by omega) (by omega) h4 hs' h
include htr hto hcmp hN in
theorem count_ok {p : Array Nat} {s : Shared} {Q : Nat × Array Nat → Shared → Prop} (g : Good N p) (hs : Inv s)
    (h : ∀ m p' s', Good N p' → 1 ≤ m → m ≤ N → SortTo lt p' m → Inv s' → Q (m, p') s') : (kas_count N p).kasWp cmp Q s := by
  unfold kas_count
  rw [KasT.kasWp_bind]
  refine asc_ok hcmp hN g (N - 1) 1 s _ hs fun n s' h1 h2 h3 h4 hs' => ?_
  have hsn : SortTo lt p n := fun i hi => h3 (i + 1) (by omega) hi
  by_cases e : (n == N) = true
  · rw [if_pos e]
    have e' : n = N := by simpa using e
    have := h n p s' g h1 (by omega) hsn hs'
    rw [e'] at this ⊢
    exact this
  · rw [if_neg e]
    have e' : n ≠ N := by simpa using e
    have hlast : lt (At p n) (At p (n - 1)) = true := h4 (by omega)
    by_cases hn1 : n > 1
    · rw [if_pos hn1]
      refine hcmp _ _ _ s' (g.lt hN 0) (g.lt hN (n - 1)) hs' fun s'' hs'' => ?_
      cases hc : lt (At p 0) (At p (n - 1)) with
      | true =>
        have hc' : lt (p.getD 0 0) (p.getD (n - 1) 0) = true := hc
        rw [hc']
        dsimp only
        rw [if_pos (rfl : true = true)]
        exact h n p s'' g h1 (by omega) hsn hs''
      | false =>
        have hc' : lt (p.getD 0 0) (p.getD (n - 1) 0) = false := hc
        rw [hc']
        dsimp only
        rw [if_neg Bool.false_ne_true]
        have heq : ∀ i, 0 ≤ i → i < n → Eqv lt (At p i) (At p (n - 1)) := fun i _ hi => by
          have a1 := hsn.all htr hto (i := i) (j := n - 1) (by omega) (by omega)
          have a2 := hsn.all htr hto (i := 0) (j := i) (by omega) hi
          exact ⟨htr _ _ _ hc a2, a1⟩
        have hce := fun k => rev_eqv htr hto (p := p) (a := 0) (b := n) (by rw [g.1]; omega) heq k
        refine descPart_ok htr hto hcmp hN (g.rev 0 n) (by omega) (fun i hi => ?_) hs'' h
        refine le_cong htr (hce (i + 1)) (hce i) ?_
        by_cases e2 : i + 1 < n
        · exact (heq i (by omega) (by omega)).1 |> fun x => htr _ _ _ (heq (i + 1) (by omega) e2).2 x
        · have e3 : i + 1 = n := by omega
          have e4 : i = n - 1 := by omega
          rw [e3, e4]
          exact hto _ _ hlast
    · rw [if_neg hn1]
      have e1 : n = 1 := by omega
      subst e1
      refine descPart_ok htr hto hcmp hN g (by omega) (fun i hi => ?_) hs' h
      have e2 : i = 0 := by omega
      subst e2
      exact hto _ _ hlast
include htr hto hcmp hN in
theorem place_ok {p : Array Nat} {k : Nat} (g : Good N p) (hsk : SortTo lt p k) : ∀ (f l r : Nat) (s : Shared) (Q : Nat → Shared → Prop), l ≤ r → r ≤ k → r ≤ l + f → (∀ i, i < l → lt (At p k) (At p i) = false) → (∀ i, r ≤ i → i < k → lt (At p i) (At p k) = false) → Inv s →
    (∀ l' s', l' ≤ k → (∀ i, i < l' → lt (At p k) (At p i) = false) → (∀ i, l' ≤ i → i < k → lt (At p i) (At p k) = false) → Inv s' → Q l' s') → (kas_place p k f l r).kasWp cmp Q s
  | 0, l, r, s, Q, h1, h2, h3, h4, h5, hs, h => by
    have e : r = l := by omega
    subst e
    exact h r s h2 h4 h5 hs
  | f + 1, l, r, s, Q, h1, h2, h3, h4, h5, hs, h => by
    unfold kas_place
    by_cases hlr : l ≥ r
    · rw [if_pos hlr]
      have e : r = l := by omega
      subst e
      exact h r s h2 h4 h5 hs
    · rw [if_neg hlr]
      refine hcmp _ _ _ s (g.lt hN k) (g.lt hN ((l + r) / 2)) hs fun s' hs' => ?_
      have hm1 : l ≤ (l + r) / 2 := by omega
      have hm2 : (l + r) / 2 < r := by omega
      cases hc : lt (At p k) (At p ((l + r) / 2)) with
      | true =>
        have hc' : lt (p.getD k 0) (p.getD ((l + r) / 2) 0) = true := hc
        rw [hc']
        dsimp only
        rw [if_pos (rfl : true = true)]
        refine place_ok g hsk f l ((l + r) / 2) s' Q hm1 (by omega) (by omega) h4 (fun i hi1 hi2 => ?_) hs' h
        exact htr _ _ _ (hto _ _ hc) (hsk.all htr hto hi1 hi2)
      | false =>
        have hc' : lt (p.getD k 0) (p.getD ((l + r) / 2) 0) = false := hc
        rw [hc']
        dsimp only
        rw [if_neg Bool.false_ne_true]
        refine place_ok g hsk f ((l + r) / 2 + 1) r s' Q (by omega) h2 (by omega) (fun i hi => ?_) h5 hs' h
        exact htr _ _ _ (hsk.all htr hto (i := i) (j := (l + r) / 2) (by omega) (by omega)) hc
include htr hto hcmp hN in
theorem bin_ok : ∀ (f : Nat) (p : Array Nat) (k : Nat) (s : Shared) (Q : Array Nat → Shared → Prop), Good N p → k + f = N → SortTo lt p k → Inv s → (∀ p' s', Good N p' → SortTo lt p' N → Inv s' → Q p' s') → (kas_bin f p k).kasWp cmp Q s
  | 0, p, k, s, Q, g, hk, hsk, hs, h => by
    have e : k = N := by omega
    subst e
    exact h p s g hsk hs
  | f + 1, p, k, s, Q, g, hk, hsk, hs, h => by
    unfold kas_bin
    rw [KasT.kasWp_bind]
    refine place_ok htr hto hcmp hN g hsk k 0 k s _ (Nat.zero_le _) (Nat.le_refl _) (by omega) (fun i hi => absurd hi (Nat.not_lt_zero _)) (fun i h1 h2 => absurd h2 (Nat.not_lt.mpr h1)) hs fun l s' h1 h2 h3 hs' => ?_
    have hA : ∀ i, At (bubble p k (k - l)) i = if i = l then At p k else if l < i ∧ i ≤ k then At p (i - 1) else At p i := fun i => by
      rw [At_bubble (by rw [g.1]; omega) (by omega)]
      have e : k - (k - l) = l := by omega
      rw [e]
    refine bin_ok f _ (k + 1) s' Q (g.bubble _ _) (by omega) (fun i hi => ?_) hs' h
    rw [hA, hA]
    by_cases e1 : i + 1 = l
    · rw [if_pos e1, if_neg (by omega), if_neg (by omega)]
      exact h2 i (by omega)
    · rw [if_neg e1]
      by_cases e2 : i = l
      · rw [if_pos e2, if_pos (by omega)]
        have e3 : i + 1 - 1 = l := by omega
        rw [e3]
        exact h3 l (Nat.le_refl _) (by omega)
      · rw [if_neg e2]
        by_cases e3 : l < i
        · rw [if_pos (by omega), if_pos (by omega)]
          have e4 : i + 1 - 1 = i - 1 + 1 := by omega
          rw [e4]
          exact hsk (i - 1) (by omega)
        · rw [if_neg (by omega), if_neg (by omega)]
          exact hsk i (by omega)
include htr hto hcmp hN in
/-- The sort's order: all places, each once, none behind a smaller one. -/
theorem sort_ok {s : Shared} {Q : Array Nat → Shared → Prop} (hs : Inv s) (h : ∀ p s', Good N p → SortTo lt p N → Inv s' → Q p s') : (kas_sort N).kasWp cmp Q s := by
  unfold kas_sort
  rw [KasT.kasWp_bind]
  refine count_ok htr hto hcmp hN (Good.range N) hs fun m p s' g h1 h2 h3 hs' => ?_
  dsimp only
  by_cases e : m < N
  · rw [if_pos e]
    have em : max m 1 = m := by omega
    rw [em]
    exact bin_ok htr hto hcmp hN (N - m) p m s' Q g (by omega) h3 hs' h
  · rw [if_neg e]
    have em : m = N := by omega
    subst em
    exact h p s' g h3 hs'
end
end Mine
-- part KT
namespace Mine
theorem partKT {M : Model} {A : Around} {v : Value} {Q : Value → Shared → Prop} {E : Value → Shared → Prop} {s : Shared} (h : Q v s) : wpAny M A (pure v : Sem Value) Q E s := by
  w_top off
  first | (walk1; exact h) | exact wpAny_pure h
end Mine
open PySem PySem.W PyProof.Rows PySem.Calls
set_option maxRecDepth 100000
set_option maxHeartbeats 2000000
namespace Mine
section
open PySem.AutoSeq1 (wpAny_loadPart')
open PySem.MeetsSeq PySem.MeetsSeq3
/-- the signs of texts -/
def cpsOf (ws : List Str) : List (List Nat) := ws.map fun x => x.cps.toList
theorem cpsOf_drop {ws : List Str} {i : Nat} {p : Str} (h : ws[i]? = some p) : (cpsOf ws).drop i = p.cps.toList :: (cpsOf ws).drop (i + 1) := by
  obtain ⟨hi, e⟩ := List.getElem?_eq_some_iff.mp h
  have h2 : i < (cpsOf ws).length := by rw [cpsOf, List.length_map]; exact hi
  rw [List.drop_eq_getElem_cons h2]
  congr 1
  simp [cpsOf, e]
theorem consLt (a b : List Nat) (r q : List (List Nat)) : decide (a :: r < b :: q) = if a = b then decide (r < q) else decide (a < b) := by
  by_cases h : a = b
  · rw [if_pos h, h]
    apply decide_eq_decide.mpr
    rw [List.cons_lt_cons_iff]
    exact ⟨fun x => x.elim (fun y => absurd y (List.lt_irrefl b)) (·.2), fun x => .inr ⟨rfl, x⟩⟩
  · rw [if_neg h]
    apply decide_eq_decide.mpr
    rw [List.cons_lt_cons_iff]
    exact ⟨fun x => x.elim id (fun y => absurd y.1 h), .inl⟩
theorem cpsInj {p q : Str} (h : p.cps.toList = q.cps.toList) : p = q := by
  cases p
  cases q
  congr 1
  exact Array.toList_inj.mp h
theorem cpsLen (ws : List Str) : (cpsOf ws).length = ws.length := List.length_map ..
/-- the rests at the first one's end, at the second one's end, and at a place of both -/
theorem rest_end1 {ws1 ws2 : List Str} {i : Nat} (e : i = ws1.length) : decide ((cpsOf ws1).drop i < (cpsOf ws2).drop i) = decide (ws1.length < ws2.length) := by
  subst e
  rw [← cpsLen ws1, List.drop_length, ← cpsLen ws2, decide_eq_decide]
  constructor
  · intro lt
    apply Nat.lt_of_not_le
    intro le
    rw [List.drop_eq_nil_of_le le] at lt
    exact List.not_lt_nil _ lt
  · intro lt
    rw [List.drop_eq_getElem_cons lt]
    exact List.nil_lt_cons _ _
theorem rest_end2 {ws1 ws2 : List Str} {i : Nat} (e : i = ws2.length) (le : i ≤ ws1.length) : decide ((cpsOf ws1).drop i < (cpsOf ws2).drop i) = decide (ws1.length < ws2.length) := by
  subst e
  rw [← cpsLen ws2, List.drop_length, decide_eq_decide, cpsLen]
  exact ⟨fun lt => (List.not_lt_nil _ lt).elim, fun lt => (Nat.not_lt.mpr le lt).elim⟩
theorem rest_both {ws1 ws2 : List Str} {i : Nat} {p q : Str} (hp : ws1[i]? = some p) (hq : ws2[i]? = some q) :
    decide ((cpsOf ws1).drop i < (cpsOf ws2).drop i) = if p == q then decide ((cpsOf ws1).drop (i + 1) < (cpsOf ws2).drop (i + 1)) else decide (p.cps.toList < q.cps.toList) := by
  rw [cpsOf_drop hp, cpsOf_drop hq, consLt]
  by_cases e : p = q
  · rw [if_pos (congrArg (·.cps.toList) e), if_pos (beq_iff_eq.mpr e)]
  · rw [if_neg fun h => e (cpsInj h), if_neg fun h => e (beq_iff_eq.mp h)]
/-- Two plain lists stand, of the items us and vs. -/
structure Stand (l b : Addr) (us vs : Array Value) (n n' : Nat) (h : Heap) : Prop where
  one : h.get? l = some { cls := .type "list", dict := none, data := .seq us n, slots := #[] }
  two : h.get? b = some { cls := .type "list", dict := none, data := .seq vs n', slots := #[] }
section less
variable {l b : Addr} {us vs : Array Value} {n n' : Nat} {ws1 ws2 : List Str}
/-- The loop that compares from place i on: the sign 0 asks for «less». -/
theorem lessFrom (is1 : StrsAre us.toList ws1) (is2 : StrsAre vs.toList ws2) : ∀ (left i : Nat), i + left = us.size → i ≤ vs.size → Meets (Builtin.«list.__eq__.loop» ⟨[.ref l, .ref b, rawInt i, rawInt 0], []⟩)
    (fun _ R s => Stand l b us vs n n' s.heap ∧ R (.ok (.ret (.bool (decide ((cpsOf ws1).drop i < (cpsOf ws2).drop i))))) s) := by
  have len1 : us.size = ws1.length := by simpa using is1.length
  have len2 : vs.size = ws2.length := by simpa using is2.length
  intro left
  induction left with
  | zero =>
    intro i sum le prog w A R s
    rcases s with ⟨H, gens, drawn, tk, os⟩
    rintro ⟨⟨hl, hb⟩, q⟩
    rw [rest_end1 (by omega), ← len1, ← len2] at q
    have gone : us[((i : Nat) : Int).toNat]? = none := Array.getElem?_eq_none (by rw [Int.toNat_natCast]; omega)
    wp_walk using wpAny_loadPart' hl, wpAny_loadPart' hb
    rw [gone]
    wp_walk using wpAny_loadPart' hl, wpAny_loadPart' hb
    exact q
  | succ left more =>
    intro i sum le prog w A R s
    rcases s with ⟨H, gens, drawn, tk, os⟩
    rintro ⟨⟨hl, hb⟩, q⟩
    have in1 : i < us.size := by omega
    have here : us[((i : Nat) : Int).toNat]? = some us[i] := by rw [Int.toNat_natCast]; exact Array.getElem?_eq_getElem in1
    obtain ⟨x, t, ux, wx⟩ := strsAt is1 (i := i) (v := us[i]) (by simp [in1])
    wp_walk using wpAny_loadPart' hl, wpAny_loadPart' hb
    rcases Nat.lt_or_ge i vs.size with in2 | over2
    · have there : vs[((i : Nat) : Int).toNat]? = some vs[i] := by rw [Int.toNat_natCast]; exact Array.getElem?_eq_getElem in2
      obtain ⟨y, u, vy, wy⟩ := strsAt is2 (i := i) (v := vs[i]) (by simp [in2])
      rw [rest_both wx wy] at q
      rw [here, there, ux, vy]
      refine wpAny_bind (eqGives_str x y t u prog w _ _ _ _ ?_)
      have next : ((i : Int) + 1) = ((i + 1 : Nat) : Int) := Int.natCast_succ i |>.symm
      cases same : x == y with
      | true =>
        rw [if_pos same] at q
        have on := more (i + 1) (by omega) (by omega) prog w A R _ ⟨⟨hl, hb⟩, q⟩
        rw [← next] at on
        wp_walk
        refine ⟨plainId_quiet plain_eq_loop _, codeAny_builtin entry_eq_loop ?_⟩
        rw [Around.under_plainId plain_eq_loop]
        exact on
      | false =>
        rw [if_neg (by rw [same]; exact Bool.false_ne_true)] at q
        wp_walk using wpAny_loadPart' hl, wpAny_loadPart' hb
        rw [here, there, ux, vy]
        show wpAny _ _ (richCompare .Lt (.str x t) (.str y u) >>= _) _ _ _
        refine wpAny_bind (wpAny_richCompare_same (typeIs_str _ _ _) (typeIs_str _ _ _) slot_str_lt (call_str_lt ⟨nofun, ?_⟩))
        exact wpAny_pure q
    · have out : vs[((i : Nat) : Int).toNat]? = none := Array.getElem?_eq_none (by rw [Int.toNat_natCast]; exact over2)
      rw [rest_end2 (by omega) (by omega), ← len1, ← len2] at q
      rw [here, out]
      wp_walk using wpAny_loadPart' hl, wpAny_loadPart' hb
      exact q
theorem list_ltM (is1 : StrsAre us.toList ws1) (is2 : StrsAre vs.toList ws2) : Meets (Builtin.«list.__lt__» ⟨[.ref l, .ref b], []⟩)
    (fun _ R s => Stand l b us vs n n' s.heap ∧ R (.ok (.ret (.bool (decide (cpsOf ws1 < cpsOf ws2))))) s) := by
  intro prog w A R s
  rcases s with ⟨H, gens, drawn, tk, os⟩
  rintro ⟨⟨hl, hb⟩, q⟩
  have kind := AutoSeq1.sub_list_list
  have on := lessFrom (l := l) (b := b) (n := n) (n' := n') is1 is2 us.size 0 (Nat.zero_add _) (Nat.zero_le _) prog w A R ⟨H, gens, drawn, tk, os⟩ ⟨⟨hl, hb⟩, q⟩
  wp_walk using wpAny_loadPart' hl, wpAny_loadPart' hb
  refine ⟨plainId_quiet plain_eq_loop _, codeAny_builtin entry_eq_loop ?_⟩
  rw [Around.under_plainId plain_eq_loop]
  exact on
end less
end
section
variable {prog : Program} {w : World} {A : Around} {E : Value → Shared → Prop} {s : Shared} {a b : Addr} {us vs : List Value} {n k : Nat} {ws1 ws2 : List Str}
/-- a list of texts on the heap -/
def ListAt (h : Heap) (a : Addr) (ws : List Str) : Prop := ∃ us n, h.get? a = some { cls := .type "list", data := .seq (List.toArray us) n } ∧ StrsAre us ws
theorem ListAt.typeIs (x : ListAt s.heap a ws1) : s.TypeIs (.ref a) "list" := let ⟨_, _, h, _⟩ := x; ⟨_, h, rfl⟩
theorem call_list_lt {Q : Value → Shared → Prop} (x : ListAt s.heap a ws1) (y : ListAt s.heap b ws2) (h : Q (.bool (decide (cpsOf ws1 < cpsOf ws2))) s) : wpAny (model prog w) A (call (.builtin "list.__lt__") [.ref a, .ref b]) Q E s := by
  obtain ⟨us, n, ha, h1⟩ := id x
  obtain ⟨vs, k, hb, h2⟩ := id y
  exact call_meets PySem.F.slot_list_lt x.typeIs PySem.F.entry_list_lt (PySem.F.args_list_lt_2 _ _) (list_ltM h1 h2) ⟨⟨ha, hb⟩, h⟩
theorem oneLt_list {o : Bool} {Q : Bool → Shared → Prop} (x : ListAt s.heap a ws1) (y : ListAt s.heap b ws2) (hu : A.units < cLine) (h : Q (decide (cpsOf ws1 < cpsOf ws2)) s) : wpAny (model prog w) A (oneLt' o (.ref a) (.ref b)) Q E s := by
  rw [oneLt'_eq]
  cases o with
  | true =>
    simp only [if_true]
    refine wpAny_bind (wpAny_cRoomFor_or (.inr hu) ?_)
    refine wpAny_bind (wpAny_callSpecialIfBound?_slot x.typeIs PySem.F.slot_list_lt (call_list_lt x y ?_))
    exact wpAny_truthy_bool h
  | false =>
    rw [if_neg Bool.false_ne_true]
    refine wpAny_bind (wpAny_richCompare_same_room x.typeIs y.typeIs PySem.F.slot_list_lt (call_list_lt x y ⟨nofun, ?_⟩) hu)
    exact wpAny_truthy_bool h
end
end Mine
-- part KU
namespace Mine
theorem partKU {M : Model} {A : Around} {v : Value} {Q : Value → Shared → Prop} {E : Value → Shared → Prop} {s : Shared} (h : Q v s) : wpAny M A (pure v : Sem Value) Q E s := by
  w_top off
  first | (walk1; exact h) | exact wpAny_pure h
end Mine
open PySem PySem.W PyProof.Rows PySem.Calls
set_option maxRecDepth 100000
set_option maxHeartbeats 2000000
namespace Mine
abbrev Key := List Str × List Str
/-- the order of the law's pairs -/
def encK (k : Key) : List (List (List Nat)) := [cpsOf k.1, cpsOf k.2]
def keyLt (k1 k2 : Key) : Bool := decide (encK k1 < encK k2)
theorem cpsOf_inj : ∀ {a b : List Str}, cpsOf a = cpsOf b → a = b
  | [], [], _ => rfl
  | [], _ :: _, h => by simp [cpsOf] at h
  | _ :: _, [], h => by simp [cpsOf] at h
  | x :: r, y :: q, h => by
    simp only [cpsOf, List.map_cons, List.cons.injEq] at h
    rw [cpsInj h.1, cpsOf_inj (a := r) (b := q) h.2]
theorem encK_inj {k1 k2 : Key} (h : encK k1 = encK k2) : k1 = k2 := by
  obtain ⟨a, b⟩ := k1
  obtain ⟨c, d⟩ := k2
  simp only [encK, List.cons.injEq, and_true] at h
  rw [cpsOf_inj h.1, cpsOf_inj h.2]
theorem consLt2 {α : Type} [DecidableEq α] [LT α] [DecidableLT α] [Std.Irrefl (α := α) (· < ·)] (a b : α) (r q : List α) : decide (a :: r < b :: q) = if a = b then decide (r < q) else decide (a < b) := by
  by_cases h : a = b
  · rw [if_pos h, h]
    apply decide_eq_decide.mpr
    rw [List.cons_lt_cons_iff]
    exact ⟨fun x => x.elim (fun y => absurd y (Std.Irrefl.irrefl b)) (·.2), fun x => .inr ⟨rfl, x⟩⟩
  · rw [if_neg h]
    apply decide_eq_decide.mpr
    rw [List.cons_lt_cons_iff]
    exact ⟨fun x => x.elim id (fun y => absurd y.1 h), .inl⟩
theorem keyLt_eq (k1 k2 : Key) : keyLt k1 k2 = if k1.1 = k2.1 then (if k1.2 = k2.2 then false else decide (cpsOf k1.2 < cpsOf k2.2)) else decide (cpsOf k1.1 < cpsOf k2.1) := by
  unfold keyLt encK
  rw [consLt2, consLt2]
  by_cases h : k1.1 = k2.1
  · rw [if_pos h, if_pos (by rw [h])]
    by_cases h2 : k1.2 = k2.2
    · rw [if_pos h2, if_pos (by rw [h2])]
      decide
    · rw [if_neg h2, if_neg (fun e => h2 (cpsOf_inj e))]
  · rw [if_neg h, if_neg (fun e => h (cpsOf_inj e))]
theorem keyLt_asymm (a b : Key) (h : keyLt a b = true) : keyLt b a = false := by
  unfold keyLt at *
  simp only [decide_eq_true_eq, decide_eq_false_iff_not] at *
  exact List.lt_asymm h
theorem keyLt_trans (a b c : Key) (h1 : keyLt b a = false) (h2 : keyLt c b = false) : keyLt c a = false := by
  unfold keyLt at *
  simp only [decide_eq_false_iff_not] at *
  rw [List.not_lt] at *
  exact List.le_trans h1 h2
theorem keyLt_total (a b : Key) (h1 : keyLt a b = false) (h2 : keyLt b a = false) : a = b := by
  unfold keyLt at *
  simp only [decide_eq_false_iff_not] at *
  rw [List.not_lt] at *
  exact encK_inj (List.le_antisymm h2 h1)
section
variable {prog : Program} {w : World} {A : Around} {E : Value → Shared → Prop} {s : Shared}
theorem strs_eqv : ∀ {us vs : List Value} {ws1 ws2 : List Str}, StrsAre us ws1 → StrsAre vs ws2 → PyData.eqvAll (ws1.map PyData.str) (ws2.map PyData.str) = decide (ws1 = ws2) := by
  intro us vs ws1 ws2 _ _
  have : ∀ a b : List Str, PyData.eqvAll (a.map PyData.str) (b.map PyData.str) = decide (a = b) := by
    intro a
    induction a with
    | nil => intro b; cases b <;> simp [PyData.eqvAll]
    | cons x r ih =>
      intro b
      cases b with
      | nil => simp [PyData.eqvAll]
      | cons y q =>
        simp only [List.map_cons, PyData.eqvAll, PyData.eqv, ih q]
        by_cases h : x = y <;> by_cases h' : r = q <;> simp [h, h']
  exact this _ _
theorem ListAt.reads {h : Heap} {a : Addr} {ws : List Str} (x : ListAt h a ws) : Reads h (.ref a) (.list (ws.map PyData.str)) [a] := by
  obtain ⟨us, n, e, hs⟩ := x
  exact reads_newData ⟨_, e, rfl, n, rfl⟩ hs.carried
theorem strs_lay : ∀ ws : List Str, (∀ x ∈ ws, PyData.strOk x = true) → PyData.canLayAll0 (ws.map PyData.str) = true ∧ PyData.depthAll (ws.map PyData.str) = 0
  | [], _ => ⟨rfl, rfl⟩
  | x :: r, h => by
    obtain ⟨h1, h2⟩ := strs_lay r fun y hy => h y (.tail _ hy)
    have h3 := h x (.head _)
    simp [PyData.canLayAll0, PyData.canLay0, PyData.depthAll, PyData.depth, h1, h2, h3]
theorem eqBool_list {a b : Addr} {ws1 ws2 : List Str} {Q : Bool → Shared → Prop} (o1 : ∀ x ∈ ws1, PyData.strOk x = true) (o2 : ∀ x ∈ ws2, PyData.strOk x = true) (x : ListAt s.heap a ws1) (y : ListAt s.heap b ws2) (hu : A.units + 64 < cLine) (h : Q (decide (ws1 = ws2)) s) : wpAny (model prog w) A (eqBool (.ref a) (.ref b)) Q E s := by
  obtain ⟨h1, h2⟩ := strs_lay ws1 o1
  obtain ⟨h3, h4⟩ := strs_lay ws2 o2
  refine PySem.SeqAt.eqBoolOverData prog w A E s _ _ _ _ _ _ Q x.reads y.reads (by simpa [PyData.canLay0] using h1) (by simpa [PyData.canLay0] using h3) (by simp only [PyData.depth, h2, h4]; omega) ?_
  obtain ⟨us, _, _, e1⟩ := x
  obtain ⟨vs, _, _, e2⟩ := y
  rw [PyData.eqv, strs_eqv e1 e2]
  exact h
def KeyOk (k : Key) : Prop := (∀ x ∈ k.1, PyData.strOk x = true) ∧ ∀ x ∈ k.2, PyData.strOk x = true
/-- a pair of two lists of texts on the heap -/
def TupAt (h : Heap) (y : Value) (k : Key) : Prop := ∃ tp a b n, y = .ref tp ∧ h.get? tp = some { cls := .type "tuple", data := .seq #[.ref a, .ref b] n } ∧ ListAt h a k.1 ∧ ListAt h b k.2
theorem keyLt_tup {x y : Value} {k1 k2 : Key} {Q : Bool → Shared → Prop} (o1 : KeyOk k1) (o2 : KeyOk k2) (hx : TupAt s.heap x k1) (hy : TupAt s.heap y k2) (hu : A.units + 64 < cLine) (h : Q (keyLt k1 k2) s) : wpAny (model prog w) A (keyLt' (tuples' true) x y) Q E s := by
  obtain ⟨t1, a1, b1, n1, rfl, g1, p1, q1⟩ := hx
  obtain ⟨t2, a2, b2, n2, rfl, g2, p2, q2⟩ := hy
  have hu' : A.units < cLine := by omega
  refine kat_lt g1 rfl g2 rfl ?_
  rw [keyLt_eq] at h
  refine kat_cons (eqBool_list o1.1 o2.1 p1 p2 hu ?_)
  by_cases e1 : k1.1 = k2.1
  · rw [if_pos e1] at h
    rw [decide_eq_true e1]
    refine kat_yes (kat_cons (eqBool_list o1.2 o2.2 q1 q2 hu ?_))
    by_cases e2 : k1.2 = k2.2
    · rw [if_pos e2] at h
      rw [decide_eq_true e2]
      exact kat_yes (kat_nil h)
    · rw [if_neg e2] at h
      rw [decide_eq_false e2]
      exact kat_no (oneLt_list q1 q2 hu' h)
  · rw [if_neg e1] at h
    rw [decide_eq_false e1]
    exact kat_no (oneLt_list p1 p2 hu' h)
end
end Mine
-- part KV
namespace Mine
theorem partKV {M : Model} {A : Around} {v : Value} {Q : Value → Shared → Prop} {E : Value → Shared → Prop} {s : Shared} (h : Q v s) : wpAny M A (pure v : Sem Value) Q E s := by
  w_top off
  first | (walk1; exact h) | exact wpAny_pure h
end Mine
open PySem PySem.W PyProof.Rows PySem.Calls
set_option maxRecDepth 100000
set_option maxHeartbeats 2000000
namespace Mine
/-- a list of texts in a ledger; a pair of two of them -/
def ListIn (news : List (Addr × Obj)) (a : Addr) (ws : List Str) : Prop := ∃ us n, (a, ({ cls := .type "list", data := .seq (List.toArray us) n } : Obj)) ∈ news ∧ StrsAre us ws
def TupIn (news : List (Addr × Obj)) (y : Value) (k : Key) : Prop := ∃ tp a b n, y = .ref tp ∧ (tp, ({ cls := .type "tuple", data := .seq #[.ref a, .ref b] n } : Obj)) ∈ news ∧ ListIn news a k.1 ∧ ListIn news b k.2
theorem ListIn.at {h₀ h : Heap} {L a : Addr} {news : List (Addr × Obj)} {ws : List Str} (N : News h₀ L h news) (x : ListIn news a ws) : ListAt h a ws := let ⟨us, n, m, s⟩ := x; ⟨us, n, (N _ m).1, s⟩
theorem TupIn.at {h₀ h : Heap} {L : Addr} {news : List (Addr × Obj)} {y : Value} {k : Key} (N : News h₀ L h news) (x : TupIn news y k) : TupAt h y k := let ⟨tp, a, b, n, e, m, p, q⟩ := x; ⟨tp, a, b, n, e, (N _ m).1, p.at N, q.at N⟩
theorem ListIn.more {news news' : List (Addr × Obj)} {a : Addr} {ws : List Str} (hs : ∀ p ∈ news, p ∈ news') (x : ListIn news a ws) : ListIn news' a ws := let ⟨us, n, m, s⟩ := x; ⟨us, n, hs _ m, s⟩
theorem TupIn.more {news news' : List (Addr × Obj)} {y : Value} {k : Key} (hs : ∀ p ∈ news, p ∈ news') (x : TupIn news y k) : TupIn news' y k := let ⟨tp, a, b, n, e, m, p, q⟩ := x; ⟨tp, a, b, n, e, hs _ m, p.more hs, q.more hs⟩
/-- the first items -/
theorem tups_firsts {h : Heap} : ∀ {vs : List Value} {ks : List Key}, All2 (TupAt h) vs ks → ∃ fs : List Value, KatTups h vs fs ∧ fs.length = vs.length ∧ ∀ v ∈ fs, ∃ a ws, v = .ref a ∧ ListAt h a ws
  | _, _, .nil => ⟨[], KatTups.nil, rfl, nofun⟩
  | _, _, .cons x r => by
    obtain ⟨fs, t, hl, hf⟩ := tups_firsts r
    obtain ⟨tp, a, b, n, rfl, g, p, q⟩ := x
    refine ⟨.ref a :: fs, KatTups.cons g rfl rfl rfl t, by rw [List.length_cons, List.length_cons, hl], fun v hv => ?_⟩
    rcases List.mem_cons.mp hv with rfl | hv
    · exact ⟨a, _, rfl, p⟩
    · exact hf v hv
/-- the keys in the order p -/
def inOrder {α : Type} (p : Array Nat) (d : α) (l : List α) : List α := p.toList.map fun i => l.getD i d
theorem inOrder_perm {α : Type} {p : Array Nat} {d : α} {l : List α} (g : Good l.length p) : (inOrder p d l).Perm l := by
  have h1 : (inOrder p d l).Perm ((List.range l.length).map fun i => l.getD i d) := g.2.map _
  have h2 : ((List.range l.length).map fun i => l.getD i d) = l := by
    apply List.ext_getElem?
    intro i
    by_cases hi : i < l.length
    · simp [hi, List.getD_eq_getElem?_getD]
    · simp [hi]
  rw [h2] at h1
  exact h1
theorem inOrder_get {α : Type} {p : Array Nat} {d : α} {l : List α} {i : Nat} (hi : i < p.size) : (inOrder p d l)[i]? = some (l.getD (At p i) d) := by
  unfold inOrder At
  simp [hi, Array.getD_eq_getD_getElem?]
theorem sorted_eq {l1 l2 : List Key} : l1.Perm l2 → l1.Pairwise (fun a b => keyLt b a = false) → l2.Pairwise (fun a b => keyLt b a = false) → l1 = l2 := by
  intro hp h1 h2
  exact hp.eq_of_pairwise (fun a b _ _ x y => keyLt_total a b y x) h1 h2
theorem inOrder_sorted {ks : List Key} {p : Array Nat} {d : Key} (g : Good ks.length p) (hs : SortTo (fun i j => keyLt (ks.getD i d) (ks.getD j d)) p ks.length) : (inOrder p d ks).Pairwise (fun a b => keyLt b a = false) := by
  have htr : ∀ a b c, (fun i j => keyLt (ks.getD i d) (ks.getD j d)) b a = false → (fun i j => keyLt (ks.getD i d) (ks.getD j d)) c b = false → (fun i j => keyLt (ks.getD i d) (ks.getD j d)) c a = false := fun a b c => keyLt_trans _ _ _
  have hto : ∀ a b, (fun i j => keyLt (ks.getD i d) (ks.getD j d)) a b = true → (fun i j => keyLt (ks.getD i d) (ks.getD j d)) b a = false := fun a b => keyLt_asymm _ _
  rw [List.pairwise_iff_getElem]
  intro i j hi hj hij
  have hl : (inOrder p d ks).length = p.size := by simp [inOrder]
  have e1 := inOrder_get (p := p) (d := d) (l := ks) (i := i) (by omega)
  have e2 := inOrder_get (p := p) (d := d) (l := ks) (i := j) (by omega)
  rw [List.getElem?_eq_getElem hi] at e1
  rw [List.getElem?_eq_getElem hj] at e2
  rw [Option.some.inj e1, Option.some.inj e2]
  exact hs.all htr hto (Nat.le_of_lt hij) (by rw [← g.1, ← hl]; exact hj)
theorem all2_inOrder {P : Value → Key → Prop} {vs : List Value} {ks : List Key} {p : Array Nat} {d : Key} (hA : All2 P vs ks) (g : Good ks.length p) : All2 P (inOrder p Value.none vs) (inOrder p d ks) := by
  have key : ∀ l : List Nat, (∀ i ∈ l, i < ks.length) → All2 P (l.map fun i => vs.getD i Value.none) (l.map fun i => ks.getD i d) := by
    intro l
    induction l with
    | nil => intro _; exact .nil
    | cons i r ih =>
      intro h
      refine .cons ?_ (ih fun j hj => h j (.tail _ hj))
      have hi : i < vs.length := by rw [hA.length]; exact h i (.head _)
      obtain ⟨k, hk, hP⟩ := hA.at (List.getElem?_eq_getElem hi)
      show P (vs.getD i Value.none) (ks.getD i d)
      rw [List.getD_eq_getElem?_getD, List.getD_eq_getElem?_getD, List.getElem?_eq_getElem hi, hk]
      exact hP
  exact key _ fun i hi => List.mem_range.mp (g.2.mem_iff.mp hi)
section
variable {prog : Program} {w : World} {A : Around} {E : Value → Shared → Prop} {s : Shared} {h₀ : Heap} {L : Addr} {m : Str → Option Value} {news : List (Addr × Obj)}
/-- sorted of a list of such pairs -/
theorem sorted_tups {l : Addr} {vs : List Value} {ks : List Key} {Q : Value → Shared → Prop} (F : Fr h₀ L s.heap m) (N : News h₀ L s.heap news) (hl : s.heap.IsList l vs.toArray) (h2 : 2 ≤ vs.length) (h64 : vs.length < 64)
    (hv : All2 (TupIn news) vs ks) (hok : ∀ k ∈ ks, KeyOk k) (hu : A.in1.in1.units + 64 < cLine)
    (h : ∀ D h' vs' ks' c, ks'.Perm ks → ks'.Pairwise (fun a b => keyLt b a = false) → Fr h₀ L h' m → News h₀ L h' ((D, listOf (List.toArray vs') c) :: news) → (∀ q ∈ news, q.1 < D) → All2 (TupIn news) vs' ks' → Q (.ref D) { s with heap := h' }) :
    wpAny (model prog w) A (call (.builtin "sorted") [.ref l]) Q E s := by
  refine kat_sorted F N hl h2 h64 fun D e1 h' F' N' hD => ?_
  have N'' : News h₀ L h' news := fun p hp => N' p (.tail _ hp)
  have hvl : vs.length = ks.length := hv.length
  obtain ⟨fs, t, hfl, hf⟩ := tups_firsts (hv.imp fun _ _ x => x.at N'')
  refine kat_kind (T := .type "list") t (by omega) (fun v hv' => ?_) rfl ?_
  · obtain ⟨a, ws, rfl, us, n, g, _⟩ := hf v hv'
    intro A' Q' E' s' hk q
    exact wpAny_typeOf (T := "list") ⟨_, hk _ _ g, rfl⟩ q
  · have e : (Value.type "list" != Value.type "tuple") = true := by decide
    rw [e, hvl]
    have dk : Key := ([], [])
    refine sort_ok (N := ks.length) (lt := fun i j => keyLt (ks.getD i ([], [])) (ks.getD j ([], []))) (Inv := fun s' => s' = { s with heap := h' }) (fun a b c => keyLt_trans _ _ _) (fun a b => keyLt_asymm _ _) (fun i j C s' hi hj hs' hC => ?_) (by omega) rfl fun p s' g hsrt hs' => ?_
    · subst hs'
      unfold kas_ask
      have hiv : i < vs.length := by omega
      have hjv : j < vs.length := by omega
      obtain ⟨k1, hk1, t1⟩ := hv.at (List.getElem?_eq_getElem hiv)
      obtain ⟨k2, hk2, t2⟩ := hv.at (List.getElem?_eq_getElem hjv)
      have e1 : vs.getD i Value.none = vs[i] := by rw [List.getD_eq_getElem?_getD, List.getElem?_eq_getElem hiv]; rfl
      have e2 : vs.getD j Value.none = vs[j] := by rw [List.getD_eq_getElem?_getD, List.getElem?_eq_getElem hjv]; rfl
      have e3 : ks.getD i ([], []) = k1 := by rw [List.getD_eq_getElem?_getD, hk1]; rfl
      have e4 : ks.getD j ([], []) = k2 := by rw [List.getD_eq_getElem?_getD, hk2]; rfl
      have hC' := hC _ rfl
      rw [e3, e4] at hC'
      rw [e1, e2]
      exact keyLt_tup (hok _ (List.mem_of_getElem? hk1)) (hok _ (List.mem_of_getElem? hk2)) (t1.at N'') (t2.at N'') hu hC'
    · subst hs'
      refine KasFin.intro F' N' (UpdF.head fun q hq => Nat.ne_of_lt (hD q hq)) fun h'' c F3 N3 => ?_
      exact h D h'' _ _ c (inOrder_perm g) (inOrder_sorted g hsrt) F3 N3 hD (all2_inOrder hv g)
end
end Mine
-- part KX
namespace Mine
theorem partKX {M : Model} {A : Around} {v : Value} {Q : Value → Shared → Prop} {E : Value → Shared → Prop} {s : Shared} (h : Q v s) : wpAny M A (pure v : Sem Value) Q E s := by
  w_top off
  first | (walk1; exact h) | exact wpAny_pure h
end Mine
open PySem PySem.W PyProof.Rows PySem.Calls
set_option maxRecDepth 100000
set_option maxHeartbeats 2000000
namespace Mine
def strLt (a b : Str) : Bool := decide (a.cps.toList < b.cps.toList)
theorem strLt_asymm (a b : Str) (h : strLt a b = true) : strLt b a = false := by
  unfold strLt at *
  simp only [decide_eq_true_eq, decide_eq_false_iff_not] at *
  exact List.lt_asymm h
theorem strLt_trans (a b c : Str) (h1 : strLt b a = false) (h2 : strLt c b = false) : strLt c a = false := by
  unfold strLt at *
  simp only [decide_eq_false_iff_not] at *
  rw [List.not_lt] at *
  exact List.le_trans h1 h2
theorem strLt_total (a b : Str) (h1 : strLt a b = false) (h2 : strLt b a = false) : a = b := by
  unfold strLt at *
  simp only [decide_eq_false_iff_not] at *
  rw [List.not_lt] at *
  exact cpsInj (List.le_antisymm h2 h1)
/-- the texts in order -/
def sortStr (l : List Str) : List Str := l.mergeSort fun a b => !strLt b a
theorem sortStr_pair (l : List Str) : (sortStr l).Pairwise fun a b => strLt b a = false := by
  have h := List.pairwise_mergeSort (le := fun a b => !strLt b a) (fun a b c h1 h2 => by
    simp only [Bool.not_eq_true'] at *
    exact strLt_trans _ _ _ h1 h2) (fun a b => by
    cases h : strLt b a with
    | false => rfl
    | true => simp [strLt_asymm _ _ h]) l
  exact h.imp fun x => by simpa using x
theorem sortStr_eq {l l' : List Str} (hp : l'.Perm l) (hs : l'.Pairwise fun a b => strLt b a = false) : l' = sortStr l :=
  (hp.trans (List.mergeSort_perm l _).symm).eq_of_pairwise (fun a b _ _ x y => strLt_total a b y x) hs (sortStr_pair l)
theorem sortStr_perm {l l' : List Str} (hp : l.Perm l') : sortStr l = sortStr l' := sortStr_eq ((List.mergeSort_perm l _).trans hp) (sortStr_pair l)
theorem strs_inOrder {vs : List Value} {ws : List Str} {p : Array Nat} {d : Str} (hA : StrsAre vs ws) (g : Good ws.length p) : StrsAre (inOrder p Value.none vs) (inOrder p d ws) := by
  have key : ∀ l : List Nat, (∀ i ∈ l, i < ws.length) → StrsAre (l.map fun i => vs.getD i Value.none) (l.map fun i => ws.getD i d) := by
    intro l
    induction l with
    | nil => intro _; exact .nil
    | cons i r ih =>
      intro h
      have hi : i < ws.length := h i (.head _)
      obtain ⟨t, ht⟩ := strsGet hA (List.getElem?_eq_getElem hi)
      have e1 : vs.getD i Value.none = .str ws[i] t := by rw [List.getD_eq_getElem?_getD, ht]; rfl
      have e2 : ws.getD i d = ws[i] := by rw [List.getD_eq_getElem?_getD, List.getElem?_eq_getElem hi]; rfl
      show StrsAre (vs.getD i Value.none :: _) (ws.getD i d :: _)
      rw [e1, e2]
      exact .cons _ t (ih fun j hj => h j (.tail _ hj))
  exact key _ fun i hi => List.mem_range.mp (g.2.mem_iff.mp hi)
theorem inOrder_sortedS {ks : List Str} {p : Array Nat} {d : Str} (g : Good ks.length p) (hs : SortTo (fun i j => strLt (ks.getD i d) (ks.getD j d)) p ks.length) : (inOrder p d ks).Pairwise (fun a b => strLt b a = false) := by
  have htr : ∀ a b c, (fun i j => strLt (ks.getD i d) (ks.getD j d)) b a = false → (fun i j => strLt (ks.getD i d) (ks.getD j d)) c b = false → (fun i j => strLt (ks.getD i d) (ks.getD j d)) c a = false := fun a b c => strLt_trans _ _ _
  have hto : ∀ a b, (fun i j => strLt (ks.getD i d) (ks.getD j d)) a b = true → (fun i j => strLt (ks.getD i d) (ks.getD j d)) b a = false := fun a b => strLt_asymm _ _
  rw [List.pairwise_iff_getElem]
  intro i j hi hj hij
  have hl : (inOrder p d ks).length = p.size := by simp [inOrder]
  have e1 := inOrder_get (p := p) (d := d) (l := ks) (i := i) (by omega)
  have e2 := inOrder_get (p := p) (d := d) (l := ks) (i := j) (by omega)
  rw [List.getElem?_eq_getElem hi] at e1
  rw [List.getElem?_eq_getElem hj] at e2
  rw [Option.some.inj e1, Option.some.inj e2]
  exact hs.all htr hto (Nat.le_of_lt hij) (by rw [← g.1, ← hl]; exact hj)
section
variable {prog : Program} {w : World} {A : Around} {E : Value → Shared → Prop} {s : Shared} {h₀ : Heap} {L : Addr} {m : Str → Option Value} {news : List (Addr × Obj)}
/-- sorted of a list of texts -/
theorem sorted_strs {l : Addr} {vs : List Value} {ws : List Str} {Q : Value → Shared → Prop} (F : Fr h₀ L s.heap m) (N : News h₀ L s.heap news) (hl : s.heap.IsList l vs.toArray) (h2 : 2 ≤ ws.length) (h64 : ws.length < 64) (hv : StrsAre vs ws)
    (h : ∀ D h' vs' c, StrsAre vs' (sortStr ws) → Fr h₀ L h' m → News h₀ L h' ((D, listOf (List.toArray vs') c) :: news) → (∀ q ∈ news, q.1 < D) → Q (.ref D) { s with heap := h' }) :
    wpAny (model prog w) A (call (.builtin "sorted") [.ref l]) Q E s := by
  have hvl := hv.length
  refine kas_sorted (T := .type "str") F N hl (by omega) (by omega) (fun h' F' N' v hm => ?_) (by decide) fun D e1 h' F' N' hD => ?_
  · obtain ⟨i, hi⟩ := List.getElem?_of_mem hm
    obtain ⟨p, t, rfl, _⟩ := strsAt hv hi
    intro A' Q' E' s' hk q
    exact wpAny_typeOf (typeIs_str s' p t) q
  · rw [hvl]
    refine sort_ok (N := ws.length) (lt := fun i j => strLt (ws.getD i ⟨#[]⟩) (ws.getD j ⟨#[]⟩)) (Inv := fun s' => s' = { s with heap := h' }) (fun a b c => strLt_trans _ _ _) (fun a b => strLt_asymm _ _) (fun i j C s' hi hj hs' hC => ?_) (by omega) rfl fun p s' g hsrt hs' => ?_
    · subst hs'
      unfold kas_ask
      obtain ⟨t1, ht1⟩ := strsGet hv (List.getElem?_eq_getElem hi)
      obtain ⟨t2, ht2⟩ := strsGet hv (List.getElem?_eq_getElem hj)
      have e1 : vs.getD i Value.none = .str ws[i] t1 := by rw [List.getD_eq_getElem?_getD, ht1]; rfl
      have e2 : vs.getD j Value.none = .str ws[j] t2 := by rw [List.getD_eq_getElem?_getD, ht2]; rfl
      have e3 : ws.getD i ⟨#[]⟩ = ws[i] := by rw [List.getD_eq_getElem?_getD, List.getElem?_eq_getElem hi]; rfl
      have e4 : ws.getD j ⟨#[]⟩ = ws[j] := by rw [List.getD_eq_getElem?_getD, List.getElem?_eq_getElem hj]; rfl
      have hC' := hC _ rfl
      rw [e3, e4] at hC'
      rw [e1, e2]
      exact kas_lt_str hC'
    · subst hs'
      refine KasFin.intro F' N' (UpdF.head fun q hq => Nat.ne_of_lt (hD q hq)) fun h'' c F3 N3 => ?_
      refine h D h'' _ c ?_ F3 N3 hD
      have e := sortStr_eq (inOrder_perm (d := ⟨#[]⟩) g) (inOrder_sortedS g hsrt)
      rw [← e]
      exact strs_inOrder hv g
end
end Mine
-- part KY
namespace Mine
theorem partKY {M : Model} {A : Around} {v : Value} {Q : Value → Shared → Prop} {E : Value → Shared → Prop} {s : Shared} (h : Q v s) : wpAny M A (pure v : Sem Value) Q E s := by
  w_top off
  first | (walk1; exact h) | exact wpAny_pure h
end Mine
open PySem PySem.W PyProof.Rows PySem.Calls
set_option maxRecDepth 100000
set_option maxHeartbeats 2000000
namespace Mine
def roadsOf (r : List Str) : List Str := List.zipWith (fun p q => p ++ Str.ofString "=" ++ q) r (r.drop 1)
/-- what a row needs, and its two ways -/
def RowOk (r f b : List Str) : Prop := ∃ w0 w1 w2 w3 w4 q l', r = [w0, w1, w2, w3, w4] ∧ Fwd 0 (Str.ofString "") r q ∧ FwdEnd q l' ∧ f = fwdOut q l' ∧ (∀ e ∈ backEs w0 w1 w2 w3 w4, ∃ kv, keqvOf e = some kv) ∧
  backGo (keqvAt (backEs w0 w1 w2 w3 w4) (backEs w0 w1 w2 w3 w4).length) w0 4 [w4] = some b ∧ ∀ x ∈ r, x.length ≤ 10
def RowsIn (tail : List (Addr × Obj)) (zs : List Value) (rs : List (List Str)) : Prop := All2 (fun y r => ∃ a us n, y = .ref a ∧ (a, ({ cls := .type "list", data := .seq (List.toArray us) n } : Obj)) ∈ tail ∧ StrsAre us r) zs rs
theorem rowsIn {hb hc h : Heap} {L : Addr} {m : Str → Option Value} {zs : List Value} {rs : List (List Str)} (F : Fr hb L hc m) (hk : Keep hc h) (x : RowsAre hc h zs rs) : ∃ tail, News hb L h tail ∧ (∀ p ∈ tail, hc.get? p.1 = none) ∧ RowsIn tail zs rs := by
  unfold RowsAre at x
  induction x with
  | nil => exact ⟨[], News.nil, (fun p hp => nomatch hp), All2.nil⟩
  | cons hx _ ih =>
    obtain ⟨tail, N, hn, hR⟩ := ih
    obtain ⟨a, us, n, rfl, ha, hg, hs⟩ := hx
    have N1 : News hb L h [(a, { cls := .type "list", data := .seq us.toArray n })] := newsAdd F News.nil hk hg ha
    refine ⟨(a, { cls := .type "list", data := .seq us.toArray n }) :: tail, ?_, ?_, ?_⟩
    · intro p hp
      rcases List.mem_cons.mp hp with e | hp
      · rw [e]; exact N1 _ (List.Mem.head _)
      · exact N p hp
    · intro p hp
      rcases List.mem_cons.mp hp with e | hp
      · rw [e]; exact ha
      · exact hn p hp
    · refine All2.cons ⟨a, us, n, rfl, List.Mem.head _, hs⟩ (All2.imp ?_ hR)
      rintro y r ⟨a', us', n', e, m', s'⟩
      exact ⟨a', us', n', e, List.Mem.tail _ m', s'⟩
local macro_rules | `(tactic| walk_at "eval Name") => `(tactic| (walk_at "mine name"))
local macro_rules | `(tactic| walk_at "call builtin:list.append") => `(tactic| (walk_at "mine append"))
local macro_rules | `(tactic| k_all) => `(tactic| assumption)
local macro_rules | `(tactic| walk_at "exec For Name Call cons nil") => `(tactic| (k_here; refine Halt.of ?_))
local macro_rules | `(tactic| walk_at "call ref") => `(tactic| (k_here; refine Halt.of ?_))
local macro_rules | `(tactic| walk_at "eval ListComp") => `(tactic| (k_here; refine Halt.of ?_))
local macro_rules | `(tactic| walk_at "call type:zip") => `(tactic| (k_here; refine Halt.of ?_))
local macro_rules | `(tactic| walk_at "call builtin:sorted") => `(tactic| (k_here; refine Halt.of ?_))
theorem newsApartT {hb hc : Heap} {L : Addr} {news tail : List (Addr × Obj)} (N : News hb L hc news) (hT : ∀ p ∈ tail, hc.get? p.1 = none) : ∀ q ∈ news, ∀ p ∈ tail, p.1 ≠ q.1 := fun q hq p hp e => by
  have h1 := (N q hq).1
  rw [← e, hT p hp] at h1
  cases h1
theorem newsLaw {hb h : Heap} {L : Addr} {p0 p1 p2 p3 : Addr × Obj} {tail : List (Addr × Obj)} (N : News hb L h [p0, p1, p2, p3]) (NT : News hb L h tail) : News hb L h (p0 :: p3 :: p2 :: p1 :: tail) :=
  List.forall_mem_cons.mpr ⟨N _ (.head _), List.forall_mem_cons.mpr ⟨N _ (.tail _ (.tail _ (.tail _ (.head _)))), List.forall_mem_cons.mpr ⟨N _ (.tail _ (.tail _ (.head _))), List.forall_mem_cons.mpr ⟨N _ (.tail _ (.head _)), NT⟩⟩⟩⟩
theorem tail5 {α : Type} {a b c d e : α} {l : List α} : ∀ p ∈ l, p ∈ a :: b :: c :: d :: e :: l := fun _ hp => .tail _ (.tail _ (.tail _ (.tail _ (.tail _ hp))))
theorem lawStep {hb h : Heap} {L : Addr} {p0 p1 p2 p3 p4 x1 x2 x3 pI pf pb : Addr × Obj} {tail : List (Addr × Obj)} (N : News hb L h (p0 :: p1 :: p2 :: p3 :: p4 :: x1 :: x2 :: x3 :: pI :: pf :: pb :: tail)) : News hb L h (pI :: pf :: pb :: p0 :: p1 :: p2 :: p3 :: p4 :: tail) := fun p hp => N p (by
  simp only [List.mem_cons] at hp ⊢
  rcases hp with h | h | h | h | h | h | h | h | h <;> simp [h])
def LawJ (hb : Heap) (s₀ : Shared) (l : Nat) (zs : List Value) (rows : List (List Str)) (fw bw : List Str → List Str) (I : Nat) (i : Nat) (s' : Shared) : Prop :=
  ∃ (fl bl n1 n2 nz : Nat) (fvs bvs : List Value) (m' : Str → Option Value) (oI : Obj) (tail : List (Addr × Obj)), Fr hb hb.objs.size s'.heap m' ∧
    News hb hb.objs.size s'.heap ((I, oI) :: (fl, W.listOf fvs.toArray n1) :: (bl, W.listOf bvs.toArray n2) :: tail) ∧ (oI.cls = .type "list_iterator" ∧ oI.data = .fields #[.ref l, .int i 0]) ∧ (fl ≠ I ∧ bl ≠ I ∧ fl ≠ bl) ∧
    (∀ p ∈ tail, p.1 ≠ I) ∧ (∀ p ∈ tail, p.1 ≠ fl) ∧ (∀ p ∈ tail, p.1 ≠ bl) ∧ m' (Str.ofString "forward") = some (.ref fl) ∧ m' (Str.ofString "backward") = some (.ref bl) ∧ (l, ({ cls := .type "list", data := .seq zs.toArray nz } : Obj)) ∈ tail ∧
    RowsIn tail zs rows ∧ All2 (TupIn tail) fvs ((rows.take i).map fun r => (fw r, sortStr (roadsOf r))) ∧ All2 (TupIn tail) bvs ((rows.take i).map fun r => (bw r, sortStr (roadsOf r))) ∧ AllBare s'.gens ∧ s'.os = s₀.os
def kd (k : Key) : PyData := .tuple [.list (k.1.map PyData.str), .list (k.2.map PyData.str)]
theorem tups_reads {h : Heap} {vs : List Value} {ks : List Key} (x : All2 (TupAt h) vs ks) : ∃ as, ReadsAll h vs (ks.map kd) as := by
  induction x with
  | nil => exact ⟨_, ReadsAll.nil⟩
  | cons hx _ ih =>
    obtain ⟨as, ih⟩ := ih
    obtain ⟨tp, a, b, n, rfl, g, p, q⟩ := hx
    exact ⟨_, ReadsAll.cons (reads_tuple_at g rfl rfl (ReadsAll.cons p.reads (ReadsAll.cons q.reads ReadsAll.nil))) ih⟩
theorem strs_eqv_self (a : List Str) : PyData.eqvAll (a.map PyData.str) (a.map PyData.str) = true := by
  induction a with
  | nil => simp [PyData.eqvAll]
  | cons x r ih => simp only [List.map_cons, PyData.eqvAll, PyData.eqv, ih]; simp
theorem tups_eqv (ks : List Key) : PyData.eqv (.list (ks.map kd)) (.list (ks.map kd)) = true := by
  have h : PyData.eqvAll (ks.map kd) (ks.map kd) = true := by
    induction ks with
    | nil => simp [PyData.eqvAll]
    | cons x r ih => simp only [List.map_cons, PyData.eqvAll, kd, PyData.eqv, strs_eqv_self, Bool.true_and, Bool.and_true]; exact ih
  simpa [PyData.eqv] using h
theorem tups_shaped {ks : List Key} (hok : ∀ k ∈ ks, KeyOk k) : SeqAt.shaped (.list (ks.map kd)) = true := by
  have h : PyData.canLayAll0 (ks.map kd) = true ∧ PyData.depthAll (ks.map kd) ≤ 2 := by
    induction ks with
    | nil => exact ⟨rfl, Nat.zero_le _⟩
    | cons x r ih =>
      obtain ⟨i1, i2⟩ := ih fun k hk => hok k (.tail _ hk)
      obtain ⟨o1, o2⟩ := hok x (.head _)
      obtain ⟨a1, a2⟩ := strs_lay x.1 o1
      obtain ⟨b1, b2⟩ := strs_lay x.2 o2
      refine ⟨?_, ?_⟩
      · simp [PyData.canLayAll0, PyData.canLay0, kd, a1, b1, i1]
      · simp only [List.map_cons, PyData.depthAll, PyData.depth, kd, a2, b2]
        omega
  unfold SeqAt.shaped
  rw [Bool.and_eq_true]
  refine ⟨by simpa [PyData.canLay0] using h.1, decide_eq_true ?_⟩
  simp only [PyData.depth]
  omega
def nes (x a b c d e : Nat) : Prop := a ≠ x ∧ b ≠ x ∧ c ≠ x ∧ d ≠ x ∧ e ≠ x
theorem nesTail {x a b c d e : Nat} {oa ob oc od oe : Obj} {tail : List (Addr × Obj)} (h : nes x a b c d e) (ht : ∀ p ∈ tail, p.1 ≠ x) : ∀ p ∈ (a, oa) :: (b, ob) :: (c, oc) :: (d, od) :: (e, oe) :: tail, p.1 ≠ x :=
  let ⟨h1, h2, h3, h4, h5⟩ := h
  List.forall_mem_cons.mpr ⟨h1, List.forall_mem_cons.mpr ⟨h2, List.forall_mem_cons.mpr ⟨h3, List.forall_mem_cons.mpr ⟨h4, List.forall_mem_cons.mpr ⟨h5, ht⟩⟩⟩⟩⟩
theorem lawNext {hb : Heap} {s₀ s' : Shared} {l I i fl bl n1 n2 nz tB aB tF aF d2 nB nF c kB kF' : Nat} {zs fvs bvs usB usF vs₂ : List Value} {rows : List (List Str)} {fw bw : List Str → List Str} {m' : Str → Option Value} {oI' : Obj} {tail : List (Addr × Obj)} {x1 x2 x3 : Addr × Obj} {r : List Str}
    (kF : Fr hb hb.objs.size s'.heap m') (kN : News hb hb.objs.size s'.heap ((tB, { cls := .type "tuple", data := .seq #[.ref aB, .ref d2] kB }) :: (aB, { cls := .type "list", data := .seq usB.toArray nB }) :: (tF, { cls := .type "tuple", data := .seq #[.ref aF, .ref d2] kF' }) :: (aF, { cls := .type "list", data := .seq usF.toArray nF }) ::
      (d2, W.listOf vs₂.toArray c) :: x1 :: x2 :: x3 :: (I, oI') :: (fl, W.listOf (fvs ++ [Value.ref tF]).toArray n1) :: (bl, W.listOf (bvs ++ [Value.ref tB]).toArray n2) :: tail))
    (hI2 : oI'.cls = .type "list_iterator" ∧ oI'.data = .fields #[.ref l, .int (i + 1 : Nat) 0]) (hne : fl ≠ I ∧ bl ≠ I ∧ fl ≠ bl) (hTI : ∀ p ∈ tail, p.1 ≠ I) (hTf : ∀ p ∈ tail, p.1 ≠ fl) (hTb : ∀ p ∈ tail, p.1 ≠ bl)
    (hm1 : m' (Str.ofString "forward") = some (.ref fl)) (hm2 : m' (Str.ofString "backward") = some (.ref bl)) (hlm : (l, ({ cls := .type "list", data := .seq zs.toArray nz } : Obj)) ∈ tail) (hRi : RowsIn tail zs rows)
    (hFv : All2 (TupIn tail) fvs ((rows.take i).map fun r => (fw r, sortStr (roadsOf r)))) (hBv : All2 (TupIn tail) bvs ((rows.take i).map fun r => (bw r, sortStr (roadsOf r)))) (hr : rows[i]? = some r)
    (hSF : StrsAre usF (fw r)) (hSB : StrsAre usB (bw r)) (hS₂ : StrsAre vs₂ (sortStr (roadsOf r))) (q1 : nes I tB aB tF aF d2) (q2 : nes fl tB aB tF aF d2) (q3 : nes bl tB aB tF aF d2) (hB : AllBare s'.gens) (hos : s'.os = s₀.os) :
    LawJ hb s₀ l zs rows fw bw I (i + 1) s' := by
  refine ⟨fl, bl, n1, n2, nz, _, _, m', oI', _, kF, lawStep kN, hI2, hne, nesTail q1 hTI, nesTail q2 hTf, nesTail q3 hTb, hm1, hm2, tail5 _ hlm, hRi.imp fun _ _ ⟨a, us, n, e, m, s⟩ => ⟨a, us, n, e, tail5 _ m, s⟩, ?_, ?_, hB, hos⟩
  · rw [List.take_add_one, hr, Option.toList_some, List.map_append]
    exact (hFv.imp fun _ _ x => x.more tail5).append (.cons ⟨tF, aF, d2, kF', rfl, .tail _ (.tail _ (.head _)), ⟨usF, nF, .tail _ (.tail _ (.tail _ (.head _))), hSF⟩, ⟨vs₂, c, .tail _ (.tail _ (.tail _ (.tail _ (.head _)))), hS₂⟩⟩ .nil)
  · rw [List.take_add_one, hr, Option.toList_some, List.map_append]
    exact (hBv.imp fun _ _ x => x.more tail5).append (.cons ⟨tB, aB, d2, kB, rfl, .head _, ⟨usB, nB, .tail _ (.head _), hSB⟩, ⟨vs₂, c, .tail _ (.tail _ (.tail _ (.tail _ (.head _)))), hS₂⟩⟩ .nil)
section
variable {w : World} {dp un : Nat} {fr : Option (List Env)} {gd : Option (List Code)} {s : Shared} {mean : ExcName → Option Value} {mg mb : Str → Option Value}
theorem c_law {R : Result → Shared → Prop} {sc : Addr} {vals : List Value} {nums : List Int} {fw bw : List Str → List Str} (X : (hd.heap_39 w.params).In s.heap) (T : Top hd.view_39 (looseW hd.view_39 []) mean mg mb s.heap) (hroom : dp + 400 < recursionLimit) (hu : un + 4000 < cLine)
    (hL : s.heap.IsList sc vals.toArray) (hI : IntsAre vals nums) (h63 : nums.length ≤ 63) (hbare : AllBare s.gens) (hok : MapOk nums) (hrows : ∀ r ∈ rowsAt (mapW nums) 4, RowOk r (fw r) (bw r))
    (hlen2 : 2 ≤ (rowsAt (mapW nums) 4).length) (hlen64 : (rowsAt (mapW nums) 4).length < 64) (hkeys : ∀ r ∈ rowsAt (mapW nums) 4, KeyOk (fw r, sortStr (roadsOf r)) ∧ KeyOk (bw r, sortStr (roadsOf r)))
    (hperm : ((rowsAt (mapW nums) 4).map fun r => (fw r, sortStr (roadsOf r))).Perm ((rowsAt (mapW nums) 4).map fun r => (bw r, sortStr (roadsOf r))))
    (h : ∀ s', Keep s.heap s'.heap → AllBare s'.gens → s'.os = s.os → R (.ok (.ret (.bool true))) s') :
    codeAny (model PySem.Challenge.rw_kl0414_01.row.prog w) (Around.mk none dp fr gd un) (.call (.ref 86) ⟨[.ref sc], []⟩) R s := by
  obtain ⟨rows, hrq⟩ : ∃ rows, rows = rowsAt (mapW nums) 4 := ⟨_, rfl⟩
  rw [← hrq] at hrows hlen2 hlen64 hkeys hperm
  revert X; k_fill; intro X
  refine' callB (binds := [(Str.ofString "script", .ref sc)]) ?k1 ?k2 ?k3 ?k6 ?k7 ?k9 ?kB ?_ ?c5 ?c2 ?c3 ?c4
  case k1 => exact X
  case k2 => exact T.nolimit
  case k3 => (try dsimp only); omega
  case k6 => k_is
  case k7 => k_is
  case k9 => exact rfl
  case kB => exact locs rfl
  case c5 => decide
  case c2 => exact rfl
  case c3 => exact rfl
  case c4 => exact rfl
  intro h₁ F
  have N : News s.heap s.heap.objs.size h₁ [] := News.nil
  try dsimp only
  k_steps
  refine Halt.go ?_
  refine' For_J ?_
  k_steps
  refine Halt.go ?_
  with_reducible rename Fr _ _ _ _ => kF
  with_reducible rename News _ _ _ _ => kN
  refine' wpAny_call (c_map (nums := nums) (Frag.In.keeps X kF.keep) (Top.keeps T kF.keep) ?r1 ?u1 (stays_list kF.keep hL) hI h63 hok ?_)
  case r1 => (try dsimp only [Around.deeper]); omega
  case u1 => (try dsimp only [Around.deeper]); omega
  rintro a1 s₅ ⟨U, hW⟩ hK1 hg1 hdr1 hos1
  have F₅ := kF.kept hK1
  have N₅ := kN.grown hK1
  try dsimp only at hg1 hdr1 hos1
  clear kF kN hK1
  k_steps
  refine Halt.go ?_
  with_reducible rename Fr _ _ _ _ => kF
  with_reducible rename News _ _ _ _ => kN
  refine' wpAny_call (c_rows (Frag.In.keeps X kF.keep) (Top.keeps T kF.keep) ?r1 hW ?_)
  case r1 => (try dsimp only [Around.deeper]); omega
  intro l n zs s₆ hK2 hn2 hl2 hR2 hg2 hdr2 hos2
  have F₆ := kF.kept hK2
  have N₆ := newsAdd kF kN hK2 hl2 hn2
  try dsimp only at hg2 hdr2 hos2
  obtain ⟨tail, NT, hTn, hRin⟩ := rowsIn kF hK2 hR2
  rw [← hrq] at hRin
  dsimp only
  have hTn2 : ∀ p ∈ (l, ({ cls := .type "list", data := .seq zs.toArray n } : Obj)) :: tail, s₅.heap.get? p.1 = none := fun p hp => by
    rcases List.mem_cons.mp hp with e | hp
    · rw [e]; exact hn2
    · exact hTn p hp
  have hneT := newsApartT kN hTn2
  have hzr : zs.length = rows.length := hRin.length
  refine forLst (vs := zs) (LawJ s.heap s l zs rows fw bw) rfl ⟨_, (N₆ _ (.head _)).1, rfl, n, rfl⟩ ?_ ?_ ?_ ?_
  · have NP := News.push F₆ N₆ { cls := .type "list_iterator", data := .fields #[.ref l, .int 0 0] } rfl
    have NTP : News s.heap s.heap.objs.size (s₆.heap.push { cls := .type "list_iterator", data := .fields #[.ref l, .int 0 0] }) tail := fun p hp => ⟨Heap.get?_push_of_some _ (NT p hp).1, (NT p hp).2⟩
    refine ⟨_, _, 0, 0, n, [], [], _, _, (l, { cls := .type "list", data := .seq zs.toArray n }) :: tail, F₆.push _, newsLaw NP NTP, ⟨rfl, rfl⟩, ⟨Nat.ne_of_lt (Heap.lt_size (N₆ _ (.tail _ (.tail _ (.head _)))).1), Nat.ne_of_lt (Heap.lt_size (N₆ _ (.tail _ (.head _))).1), ?_⟩, ?_,
      hneT _ (.tail _ (.head _)), hneT _ (.head _), rfl, rfl, .head _, hRin.imp fun _ _ ⟨a, us, n, e, m, s⟩ => ⟨a, us, n, e, .tail _ m, s⟩, .nil, .nil, ?_, ?_⟩
    · k_ne
    · intro p hp
      rcases List.mem_cons.mp hp with e | hp
      · rw [e]; exact Nat.ne_of_lt (Heap.lt_size (N₆ _ (.head _)).1)
      · exact Nat.ne_of_lt (Heap.lt_size (NT p hp).1)
    · rw [show _ = s.gens from hg2.trans hg1]; exact hbare
    · exact hos2.trans hos1
  · rintro I i s' ⟨fl, bl, n1, n2, nz, fvs, bvs, m', oI, tail, F', N', hI, hne, hTI, hTf, hTb, hm1, hm2, hlm, _⟩
    exact ⟨⟨oI, (N' _ (.head _)).1, hI⟩, _, (N' _ (.tail _ (.tail _ (.tail _ hlm)))).1, rfl, nz, rfl⟩
  · clear kF kN N₆ F₆ NT hTn hTn2 hneT hRin hR2 hK2 hl2 hn2 hW tail
    rintro I i s' v h' tk' hv ⟨fl, bl, n1, n2, nz, fvs, bvs, m', oI, tail, F', N', hI, ⟨h1, h2, h3⟩, hTI, hTf, hTb, hm1, hm2, hlm, hRi, hFv, hBv, hB, hos⟩ ⟨oI', hI', hI2⟩ hk
    obtain ⟨F₁, N₁⟩ := moveI F' N' (fun p hp => by
      rcases List.mem_cons.mp hp with e | hp
      · rw [e]; exact h1
      rcases List.mem_cons.mp hp with e | hp
      · rw [e]; exact h2
      · exact hTI p hp) hI' hk
    clear F' N' hk
    obtain ⟨r, hr, a, us, na, rfl, ham, hsa⟩ := hRi.at hv
    obtain ⟨w0, w1, w2, w3, w4, q, l', rfl, hfwd, hend, hf, hes, hgo, hlen⟩ := hrows r (List.mem_of_getElem? hr)
    cases hsa with | cons _ t0 hsa =>
    cases hsa with | cons _ t1 hsa =>
    cases hsa with | cons _ t2 hsa =>
    cases hsa with | cons _ t3 hsa =>
    cases hsa with | cons _ t4 hsa =>
    cases hsa with | nil =>
    have l0 : w0.length ≤ 10 := hlen _ (by simp)
    have l1 : w1.length ≤ 10 := hlen _ (by simp)
    have l2 : w2.length ≤ 10 := hlen _ (by simp)
    have l3 : w3.length ≤ 10 := hlen _ (by simp)
    have l4 : w4.length ≤ 10 := hlen _ (by simp)
    have haI : @Ne Nat a I := hTI _ ham
    have haf : @Ne Nat a fl := hTf _ ham
    have hab : @Ne Nat a bl := hTb _ ham
    have hfI : @Ne Nat fl I := h1
    have hbI : @Ne Nat bl I := h2
    have hfb : @Ne Nat fl bl := h3
    have N₂ : News s.heap s.heap.objs.size h' ((a, { cls := .type "list", data := .seq [Value.str w0 t0, .str w1 t1, .str w2 t2, .str w3 t3, .str w4 t4].toArray na }) :: (I, oI') :: (fl, W.listOf fvs.toArray n1) :: (bl, W.listOf bvs.toArray n2) :: tail) := fun p hp => by
      rcases List.mem_cons.mp hp with e | hp
      · rw [e]; exact N₁ _ (.tail _ (.tail _ (.tail _ ham)))
      · exact N₁ p hp
    replace F₁ := Fr.known0 (Fr.known0 F₁ hm1) ((if_neg (by decide)).trans hm2)
    clear N₁ hrows hperm hkeys
    k_steps
    refine Halt.go ?_
    refine' listComp_Z (cl := []) ?a1 ?a2 ?a3 ?_
    case a1 => with_unfolding_all rfl
    case a2 => rfl
    case a3 => decide
    k_steps
    with_reducible rename Fr _ _ _ _ => kF
    with_reducible rename News _ _ _ _ => kN
    refine Halt.go ?_
    have hl1 := News.isList kN (.tail _ (.head _))
    have hl2 := News.isList kN (.head _)
    refine' zipValue (xs := [.str w0 t0, .str w1 t1, .str w2 t2, .str w3 t3, .str w4 t4]) (ys := [.str w1 t1, .str w2 t2, .str w3 t3, .str w4 t4]) (pairVal fun p q => p ++ Str.ofString "=" ++ q) ?z1 ?z2 ?z3 ?z4 ?z5 ?z6 ?z7 ?z8 ?z9 ?_ ?_
    case z1 => rfl
    case z2 => exact hl1
    case z3 => exact hl2
    case z4 => exact Nat.le_of_ble_eq_true rfl
    case z5 => decide
    case z6 => rfl
    case z7 => rfl
    case z8 => rfl
    case z9 => decide
    · rintro C j x y s₃ m₃ E' hC hx hy hn hma hmb hk
      have hx' : ∃ p t, x = .str p t ∧ p.length ≤ 10 := by
        rcases j with _ | _ | _ | _ | _ | j <;> simp at hx <;> subst hx <;> exact ⟨_, _, rfl, by assumption⟩
      have hy' : ∃ p t, y = .str p t ∧ p.length ≤ 10 := by
        rcases j with _ | _ | _ | _ | j <;> simp at hy <;> subst hy <;> exact ⟨_, _, rfl, by assumption⟩
      obtain ⟨p, t, rfl, hpl⟩ := hx'
      obtain ⟨q, u, rfl, hql⟩ := hy'
      obtain ⟨FC, NC⟩ := compFrK kF kN hC hn hk
      clear kF kN hl2 hl1
      replace FC := Fr.known0 (Fr.known0 FC hma) ((if_neg (by decide)).trans hmb)
      k_steps
      · exact ⟨_, _, _, _, _, rfl, rfl, rfl⟩
      · exact ⟨_, _, rfl, fun _ _ e => e⟩
    · intro D s₃ vs hDL hpl hlenv hF hK hg₃ hdr₃ hos₃
      have hST := strsPairs (F := fun p q => p ++ Str.ofString "=" ++ q) (.cons w0 t0 (.cons w1 t1 (.cons w2 t2 (.cons w3 t3 (.cons w4 t4 .nil))))) (.cons w1 t1 (.cons w2 t2 (.cons w3 t3 (.cons w4 t4 .nil)))) hlenv hF
      obtain ⟨nD, hpl⟩ := hpl
      have hDn : Heap.get? _ D = none := Heap.get?_none_of_le hDL
      have F₃ := kF.kept hK
      have N₃ := newsAdd kF kN hK hpl hDn
      have hneD := newsNe kN hDn
      have hD1 : @Ne Nat I D := hneD (I, _) (.tail _ (.tail _ (.head _)))
      have hD2 : @Ne Nat fl D := hneD (fl, _) (.tail _ (.tail _ (.tail _ (.head _))))
      have hD3 : @Ne Nat bl D := hneD (bl, _) (.tail _ (.tail _ (.tail _ (.tail _ (.head _)))))
      try dsimp only at hg₃ hdr₃ hos₃
      clear kF kN hl1 hl2 hF hK hpl hDn hDL hneD
      k_steps
      with_reducible rename Fr _ _ _ _ => kF
      with_reducible rename News _ _ _ _ => kN
      refine Halt.go ?_
      refine sorted_strs kF kN (News.isList kN (.head _)) (Nat.le_of_ble_eq_true rfl) (Nat.le_of_ble_eq_true rfl) hST ?_
      intro D₂ h₂ vs₂ c hS₂ F₄ N₄ hlt₂
      try k_lt hlt₂
      clear kF kN
      k_steps
      with_reducible rename Fr _ _ _ _ => kF
      with_reducible rename News _ _ _ _ => kN
      refine Halt.go ?_
      have hfl64 : fvs.length ≤ 64 := by rw [hFv.length, List.length_map, List.length_take]; omega
      have hbl64 : bvs.length ≤ 64 := by rw [hBv.length, List.length_map, List.length_take]; omega
      have hgB : AllBare s₃.gens := by rw [hg₃]; exact hB
      refine' wpAny_call (c_forward (Frag.In.keeps X kF.keep) (Top.keeps T kF.keep) ?r1 ?u1 (News.isList kN (.tail _ (.tail _ (.tail _ (.head _))))) (.cons w0 t0 (.cons w1 t1 (.cons w2 t2 (.cons w3 t3 (.cons w4 t4 .nil))))) rfl hlen hgB hfwd hend ?_)
      case r1 => (try dsimp only [Around.deeper]); omega
      case u1 => (try dsimp only [Around.deeper]); omega
      intro aF s₄ usF hKF hnF hplF hSF hBF hosF
      obtain ⟨nF, hplF⟩ := hplF
      have F₅ := kF.kept hKF
      have N₅ := newsAdd kF kN hKF hplF hnF
      have hneF := newsNe kN hnF
      have hF1 : @Ne Nat I aF := hneF (I, _) (.tail _ (.tail _ (.tail _ (.tail _ (.head _)))))
      have hF2 : @Ne Nat fl aF := hneF (fl, _) (.tail _ (.tail _ (.tail _ (.tail _ (.tail _ (.head _))))))
      have hF3 : @Ne Nat bl aF := hneF (bl, _) (.tail _ (.tail _ (.tail _ (.tail _ (.tail _ (.tail _ (.head _)))))))
      try dsimp only at hosF
      clear kF kN hKF hplF hnF hneF
      k_steps
      with_reducible rename Fr _ _ _ _ => kF
      with_reducible rename News _ _ _ _ => kN
      refine Halt.go ?_
      refine' wpAny_call (c_backward (Frag.In.keeps X kF.keep) (Top.keeps T kF.keep) ?r1 (News.isList kN (.tail _ (.tail _ (.tail _ (.tail _ (.tail _ (.head _))))))) hgo hes hlen ?_)
      case r1 => (try dsimp only [Around.deeper]); omega
      intro aB s₅ usB hKB hnB hplB hSB hgB2 hosB
      obtain ⟨nB, hplB⟩ := hplB
      have F₆ := kF.kept hKB
      have N₆ := newsAdd kF kN hKB hplB hnB
      have hneB := newsNe kN hnB
      have hB1 : @Ne Nat I aB := hneB (I, _) (.tail _ (.tail _ (.tail _ (.tail _ (.tail _ (.tail _ (.head _)))))))
      have hB2 : @Ne Nat fl aB := hneB (fl, _) (.tail _ (.tail _ (.tail _ (.tail _ (.tail _ (.tail _ (.tail _ (.head _))))))))
      have hB3 : @Ne Nat bl aB := hneB (bl, _) (.tail _ (.tail _ (.tail _ (.tail _ (.tail _ (.tail _ (.tail _ (.tail _ (.head _)))))))))
      try dsimp only at hosB hgB2
      clear kF kN hKB hplB hnB hneB
      k_steps
      · exact .inl rfl
      · with_reducible rename Fr _ _ _ _ => kF
        with_reducible rename News _ _ _ _ => kN
        refine lawNext (nz := nz) (tail := tail) (r := [w0, w1, w2, w3, w4]) (i := i) (usB := usB) (usF := usF) (vs₂ := vs₂) kF kN hI2 ⟨h1, h2, h3⟩ hTI hTf hTb rfl rfl hlm hRi hFv hBv hr (by rw [hf]; exact hSF) hSB hS₂ ?_ ?_ ?_ ?_ ?_
        · refine ⟨?_, ?_, ?_, ?_, ?_⟩ <;> k_ne
        · refine ⟨?_, ?_, ?_, ?_, ?_⟩ <;> k_ne
        · refine ⟨?_, ?_, ?_, ?_, ?_⟩ <;> k_ne
        · rw [show _ = s₄.gens from hgB2]
          exact hBF
        · exact hosB.trans (hosF.trans (hos₃.trans hos))
  · clear kF kN N₆ F₆ NT hTn hTn2 hneT hRin hR2 hK2 hl2 hn2 hW tail hrows
    rintro I s' h' tk' ⟨fl, bl, n1, n2, nz, fvs, bvs, m', oI, tail, F', N', hI, ⟨h1, h2, h3⟩, hTI, hTf, hTb, hm1, hm2, hlm, hRi, hFv, hBv, hB, hos⟩ hk
    obtain ⟨F₁, N₁⟩ := moveOff F' N' (fun p hp => by
      rcases List.mem_cons.mp hp with e | hp
      · rw [e]; exact h1
      rcases List.mem_cons.mp hp with e | hp
      · rw [e]; exact h2
      · exact hTI p hp) hk
    clear F' N' hk
    rw [hzr, List.take_length] at hFv hBv
    have hfl64 : fvs.length = rows.length := by rw [hFv.length, List.length_map]
    have hbl64 : bvs.length = rows.length := by rw [hBv.length, List.length_map]
    replace F₁ := Fr.known0 (Fr.known0 F₁ hm1) ((if_neg (by decide)).trans hm2)
    k_steps
    with_reducible rename Fr _ _ _ _ => kF
    with_reducible rename News _ _ _ _ => kN
    refine Halt.go ?_
    refine sorted_tups kF kN (News.isList kN (.head _)) (by omega) (by omega) (hFv.imp fun _ _ x => x.more fun _ hp => .tail _ (.tail _ hp)) (fun k hk => by obtain ⟨r, hr, rfl⟩ := List.mem_map.mp hk; exact (hkeys r hr).1) ?_ ?_
    · (try simp only [units_in1, units_deeper])
      (try dsimp only [Around.deeper, Around.in1])
      omega
    intro D1 h₁' vs1 ks1 c1 hp1 hs1 F₂ N₂ hlt1 hA1
    clear kF kN
    k_steps
    with_reducible rename Fr _ _ _ _ => kF
    with_reducible rename News _ _ _ _ => kN
    refine Halt.go ?_
    refine sorted_tups kF kN (News.isList kN (.tail _ (.tail _ (.head _)))) (by omega) (by omega) (hBv.imp fun _ _ x => x.more fun _ hp => .tail _ (.tail _ (.tail _ hp))) (fun k hk => by obtain ⟨r, hr, rfl⟩ := List.mem_map.mp hk; exact (hkeys r hr).2) ?_ ?_
    · (try simp only [units_in1, units_deeper])
      (try dsimp only [Around.deeper, Around.in1])
      omega
    intro D2 h₂' vs2 ks2 c2 hp2 hs2 F₃ N₃ hlt2 hA2
    have hks : ks2 = ks1 := sorted_eq (hp2.trans (hperm.symm.trans hp1.symm)) hs2 hs1
    subst hks
    have N₄ : News s.heap s.heap.objs.size h₂' _ := fun p hp => N₃ p (.tail _ hp)
    have hko : ∀ k ∈ ks2, KeyOk k := fun k hk => by
      obtain ⟨r, hr, rfl⟩ := List.mem_map.mp (hp2.mem_iff.mp hk)
      exact (hkeys r hr).2
    obtain ⟨as1, ra⟩ := tups_reads (hA1.imp fun _ _ x => (x.more fun _ hp => .tail _ hp).at N₄)
    obtain ⟨as2, rb⟩ := tups_reads (hA2.imp fun _ _ x => x.at N₄)
    clear kF kN
    refine eq_dataH (reads_list_at (N₃ _ (.tail _ (.head _))).1 rfl rfl ra) (reads_list_at (N₃ _ (.head _)).1 rfl rfl rb) (tups_shaped hko) (tups_shaped hko) ?_ ?_
    · (try simp only [units_in1, units_deeper])
      (try dsimp only [Around.deeper, Around.in1])
      omega
    · rw [tups_eqv]
      exact h _ F₃.keep hB hos
end
end Mine
-- part KP
namespace Mine
theorem partKP {M : Model} {A : Around} {v : Value} {Q : Value → Shared → Prop} {E : Value → Shared → Prop} {s : Shared} (h : Q v s) : wpAny M A (pure v : Sem Value) Q E s := by
  w_top off
  first | (walk1; exact h) | exact wpAny_pure h
end Mine
open PySem PySem.W PyProof.Rows PySem.Calls
set_option maxRecDepth 100000
set_option maxHeartbeats 2000000
namespace Mine
/-- a state of parse_http_list with something ahead of it -/
def liftH (res0 : List Str) (p0 : Str) (st : List Str × Str × Bool × Bool) : List Str × Str × Bool × Bool := match st.1 with
  | [] => (res0, p0 ++ st.2.1, st.2.2)
  | r :: rs => (res0 ++ (p0 ++ r) :: rs, st.2)
theorem strAssoc (a b c : Str) : a ++ b ++ c = a ++ (b ++ c) := by
  apply cpsInj
  simp [Str.cps_append]
theorem strNil (a : Str) : a ++ Str.ofString "" = a := by
  apply cpsInj
  rw [Str.cps_append]
  simp [show (Str.ofString "").cps = #[] from rfl]
theorem lift_step (res0 : List Str) (p0 : Str) (st : List Str × Str × Bool × Bool) (c : Str) : httpStep (liftH res0 p0 st) c = liftH res0 p0 (httpStep st c) := by
  obtain ⟨rs, part, e, q⟩ := st
  cases rs with
  | nil =>
    cases e <;> cases q <;> simp only [liftH, httpStep, Bool.false_eq_true, if_false, if_true] <;> (repeat' split) <;> simp_all [strAssoc, strNil]
  | cons r rs =>
    cases e <;> cases q <;> simp only [liftH, httpStep, Bool.false_eq_true, if_false, if_true, List.cons_append] <;> (repeat' split) <;> simp_all
theorem lift_fold (res0 : List Str) (p0 : Str) : ∀ (l : List Str) (st : List Str × Str × Bool × Bool), l.foldl httpStep (liftH res0 p0 st) = liftH res0 p0 (l.foldl httpStep st)
  | [], _ => rfl
  | c :: l, st => by rw [List.foldl_cons, List.foldl_cons, lift_step, lift_fold]
def signs (x : Str) : List Str := x.cps.toList.map fun c => (⟨#[c]⟩ : Str)
theorem signs_append (a b : Str) : signs (a ++ b) = signs a ++ signs b := by
  unfold signs
  rw [Str.cps_append]
  simp
abbrev st0 : List Str × Str × Bool × Bool := ([], Str.ofString "", false, false)
theorem httpAt_all (x : Str) : httpAt x x.cps.size = (signs x).foldl httpStep st0 := by
  unfold httpAt signs
  rw [List.take_of_length_le (by simp)]
def toldT (a b c : Str) : Str := a ++ Str.ofString "=\"" ++ Txt.replace (Txt.join (Str.ofString ", ") [b, c]) (Str.ofString "\\") (Str.ofString "\\\\") ++ Str.ofString "\""
def partT (a b c : Str) : Str := a ++ Str.ofString "=\"" ++ b ++ Str.ofString ", " ++ c ++ Str.ofString "\""
theorem told_fold : ∀ a ∈ names4, ∀ b ∈ names4, ∀ c ∈ names4, (signs (toldT a b c)).foldl httpStep st0 = ([], partT a b c, false, false) := by decide +kernel
theorem part_strip : ∀ a ∈ names4, ∀ b ∈ names4, ∀ c ∈ names4, Txt.strip (partT a b c) = partT a b c ∧ Txt.strip (Str.ofString " " ++ partT a b c) = partT a b c := by decide +kernel
theorem part_keqv : ∀ a ∈ names4, ∀ b ∈ names4, ∀ c ∈ names4, keqvOf (partT a b c) = some (a, b ++ Str.ofString ", " ++ c) := by decide +kernel
theorem ways_http : ∀ b ∈ names4, ∀ c ∈ names4, httpList (b ++ Str.ofString ", " ++ c) = [b, c] := by decide +kernel
theorem signs_glue (sep : Str) : ∀ (r : List Str) (acc : Str), signs ⟨r.foldl (fun a p => a ++ sep.cps ++ p.cps) acc.cps⟩ = signs acc ++ (r.map fun p => signs sep ++ signs p).flatten
  | [], acc => by simp
  | p :: r, acc => by
    have h := signs_glue sep r (acc ++ sep ++ p)
    rw [Str.cps_append, Str.cps_append] at h
    rw [List.foldl_cons, h, signs_append, signs_append]
    simp
theorem toldOne_eq (z : Int) : toldOne z = toldT (nameAt z) (wayAt z 4) (wayAt z 12) := rfl
def partOf (z : Int) : Str := partT (nameAt z) (wayAt z 4) (wayAt z 12)
theorem toldOne_fold (z : Int) (res : List Str) (p : Str) : (signs (toldOne z)).foldl httpStep (res, p, false, false) = (res, p ++ partOf z, false, false) := by
  have h := lift_fold res p (signs (toldOne z)) st0
  have e : liftH res p st0 = (res, p, false, false) := by simp only [liftH, strNil]
  rw [e] at h
  rw [h, toldOne_eq, told_fold (nameAt z) (nameAt_mem _) (wayAt z 4) (nameAt_mem _) (wayAt z 12) (nameAt_mem _)]
  rfl
theorem sep_fold (res : List Str) (p : Str) : (signs (Str.ofString ", ")).foldl httpStep (res, p, false, false) = (res ++ [p], Str.ofString " ", false, false) := by
  rfl
theorem glue_fold : ∀ (zs : List Int) (res : List Str) (p : Str), ((zs.map toldOne).map fun t => signs (Str.ofString ", ") ++ signs t).flatten.foldl httpStep (res, p, false, false) =
    (res ++ (p :: zs.map fun z => Str.ofString " " ++ partOf z).dropLast, (p :: zs.map fun z => Str.ofString " " ++ partOf z).getLastD p, false, false)
  | [], res, p => by simp
  | z :: zs, res, p => by
    rw [List.map_cons, List.map_cons, List.flatten_cons, List.foldl_append, List.foldl_append, sep_fold, toldOne_fold, glue_fold zs]
    rw [List.append_assoc]
    rfl
theorem strNilL (a : Str) : Str.ofString "" ++ a = a := by
  apply cpsInj
  rw [Str.cps_append]
  simp [show (Str.ofString "").cps = #[] from rfl]
theorem join_signs (sep t : Str) (r : List Str) : signs (Txt.join sep (t :: r)) = signs t ++ (r.map fun p => signs sep ++ signs p).flatten := signs_glue sep r t
theorem partOf_strip (z : Int) : Txt.strip (partOf z) = partOf z ∧ Txt.strip (Str.ofString " " ++ partOf z) = partOf z := part_strip (nameAt z) (nameAt_mem _) (wayAt z 4) (nameAt_mem _) (wayAt z 12) (nameAt_mem _)
theorem partOf_pos (z : Int) : (Str.ofString " " ++ partOf z).length ≠ 0 := by
  rw [Str.length_append]
  have : (Str.ofString " ").length = 1 := by decide
  omega
theorem http_of {x last : Str} {P : List Str} (h : httpAt x x.cps.size = (P, last, false, false)) (hl : last.length ≠ 0) : httpList x = (P ++ [last]).map fun p => Txt.strip p := by
  have e : httpParts x = P ++ [last] := by
    unfold httpParts
    generalize httpAt x x.cps.size = st at h
    subst h
    show P ++ (if last.length = 0 then [] else [last]) = P ++ [last]
    rw [if_neg hl]
  unfold httpList
  rw [e]
theorem last_is (p d : Str) (f : Int → Str) (y : Int) (zs : List Int) : ∃ z, (p :: (y :: zs).map f).getLastD d = f z ∧ (p :: (y :: zs).map f).dropLast ++ [f z] = p :: (y :: zs).map f := by
  have hne : (p :: (y :: zs).map f) ≠ [] := by simp
  obtain ⟨z, hz⟩ : ∃ z, ((y :: zs).map f).getLast? = some (f z) := by
    rw [List.getLast?_map]
    cases e : (y :: zs).getLast? with
    | none => simp at e
    | some z => exact ⟨z, rfl⟩
  have h2 : (p :: (y :: zs).map f).getLast? = some (f z) := by rw [List.getLast?_cons, hz]; rfl
  refine ⟨z, by rw [List.getLastD_eq_getLast?, h2]; rfl, ?_⟩
  have h3 : (p :: (y :: zs).map f).getLast hne = f z := by
    rw [List.getLast?_eq_some_getLast hne] at h2
    exact Option.some.inj h2
  rw [← h3]
  exact List.dropLast_concat_getLast hne
end Mine
-- part KP2
namespace Mine
theorem partKP2 {M : Model} {A : Around} {v : Value} {Q : Value → Shared → Prop} {E : Value → Shared → Prop} {s : Shared} (h : Q v s) : wpAny M A (pure v : Sem Value) Q E s := by
  w_top off
  first | (walk1; exact h) | exact wpAny_pure h
end Mine
open PySem PySem.W PyProof.Rows PySem.Calls
set_option maxRecDepth 100000
set_option maxHeartbeats 200000
namespace Mine
theorem http_fold {x : Str} {P : List Str} {last : Str} (h : (signs x).foldl httpStep st0 = (P, last, false, false)) : httpAt x x.cps.size = (P, last, false, false) := (httpAt_all x).trans h
theorem header_fold (x : Int) (zs : List Int) (J : Str) (hJ : signs J = signs (toldOne x) ++ ((zs.map toldOne).map fun p => signs (Str.ofString ", ") ++ signs p).flatten) :
    (signs J).foldl httpStep ([], Str.ofString "", false, false) = ((partOf x :: zs.map fun z => Str.ofString " " ++ partOf z).dropLast, (partOf x :: zs.map fun z => Str.ofString " " ++ partOf z).getLastD (partOf x), false, false) := by
  rw [hJ, List.foldl_append, toldOne_fold x [] (Str.ofString ""), strNilL, glue_fold zs [] (partOf x), List.nil_append]
theorem strip_parts (x : Int) (l : List Int) : ((partOf x :: l.map fun z => Str.ofString " " ++ partOf z).map fun p => Txt.strip p) = (x :: l).map partOf := by
  rw [List.map_cons, List.map_cons, (partOf_strip x).1]
  refine congrArg _ ?_
  induction l with
  | nil => rfl
  | cons z r ih => rw [List.map_cons, List.map_cons, List.map_cons, (partOf_strip z).2, ih]
theorem header_partsJ (x y : Int) (zs : List Int) (J : Str) (hJ : signs J = signs (toldOne x) ++ (((y :: zs).map toldOne).map fun p => signs (Str.ofString ", ") ++ signs p).flatten) :
    httpList J = (x :: y :: zs).map partOf := by
  have hf := header_fold x (y :: zs) J hJ
  obtain ⟨z, h1, h2⟩ := last_is (partOf x) (partOf x) (fun z => Str.ofString " " ++ partOf z) y zs
  rw [h1] at hf
  have h3 := http_of (http_fold hf) (partOf_pos z)
  rw [h3, h2]
  exact strip_parts x (y :: zs)
theorem join_signs' (sep t : Str) (r : List Str) (J : Str) (h : J = Txt.join sep (t :: r)) : signs J = signs t ++ (r.map fun p => signs sep ++ signs p).flatten := by
  rw [h]
  exact join_signs sep t r
theorem header_parts (nums : List Int) : httpList (header nums) = (mapXs nums).map partOf := by
  have h : header nums = Txt.join (Str.ofString ", ") (toldOne 12 :: (25 :: 6 :: 7 :: nums.take 6).map toldOne) := rfl
  generalize header nums = J at h
  exact header_partsJ 12 25 (6 :: 7 :: nums.take 6) J (join_signs' _ _ _ J h)
end Mine
-- part KP3
namespace Mine
theorem partKP3 {M : Model} {A : Around} {v : Value} {Q : Value → Shared → Prop} {E : Value → Shared → Prop} {s : Shared} (h : Q v s) : wpAny M A (pure v : Sem Value) Q E s := by
  w_top off
  first | (walk1; exact h) | exact wpAny_pure h
end Mine
open PySem PySem.W PyProof.Rows PySem.Calls
set_option maxRecDepth 100000
set_option maxHeartbeats 400000
namespace Mine
def textOf (z : Int) : Str := wayAt z 4 ++ Str.ofString ", " ++ wayAt z 12
theorem partOf_keqv (z : Int) : keqvOf (partOf z) = some (nameAt z, textOf z) := part_keqv (nameAt z) (nameAt_mem _) (wayAt z 4) (nameAt_mem _) (wayAt z 12) (nameAt_mem _)
theorem part_len : ∀ a ∈ names4, ∀ b ∈ names4, ∀ c ∈ names4, (partT a b c).length ≤ 30 := by decide +kernel
theorem partOf_len (z : Int) : (partOf z).length ≤ 30 := part_len (nameAt z) (nameAt_mem _) (wayAt z 4) (nameAt_mem _) (wayAt z 12) (nameAt_mem _)
theorem text_len : ∀ b ∈ names4, ∀ c ∈ names4, (b ++ Str.ofString ", " ++ c).length ≤ 30 := by decide +kernel
theorem keqvPut_part (D : List (PyData × PyData)) (z : Int) : keqvPut D (partOf z) = PyProof.V.putD (.str (nameAt z)) (.str (textOf z)) D := by
  unfold keqvPut
  rw [partOf_keqv]
theorem tableOf_eq (nums : List Int) : tableOf nums = (mapXs nums).foldl (fun D z => PyProof.V.putD (.str (nameAt z)) (.str (textOf z)) D) [] := by
  unfold tableOf keqvAt
  rw [List.take_length, header_parts]
  generalize mapXs nums = l
  suffices ∀ D, (l.map partOf).foldl keqvPut D = l.foldl (fun D z => PyProof.V.putD (.str (nameAt z)) (.str (textOf z)) D) D from this []
  induction l with
  | nil => intro D; rfl
  | cons z r ih => intro D; rw [List.map_cons, List.foldl_cons, List.foldl_cons, keqvPut_part, ih]
theorem mapXs_len (nums : List Int) : (mapXs nums).length ≤ 10 := by
  rw [mapXs, List.length_append, List.length_take]
  show 4 + min 6 nums.length ≤ 10
  omega
open PySem.Spec PyProof.V in
/-- some place told last for x -/
def ToldFor (D : List (PyData × PyData)) (x : Str) : Prop := ∃ z, nameAt z = x ∧ lookup (.str x) D = some (.str (textOf z))
open PySem.Spec PyProof.V in
theorem toldPut {D : List (PyData × PyData)} {x : Str} (z : Int) (h : ToldFor D x ∨ nameAt z = x) : ToldFor (putD (.str (nameAt z)) (.str (textOf z)) D) x := by
  have e := lookup_putK (enc := PyData.str) keyEnc_str x (nameAt z) (.str (textOf z)) D
  by_cases hx : x = nameAt z
  · rw [if_pos hx] at e
    exact ⟨z, hx.symm, e⟩
  · rw [if_neg hx] at e
    rcases h with ⟨z', h1, h2⟩ | h
    · exact ⟨z', h1, e.trans h2⟩
    · exact absurd h.symm hx
theorem toldFold {x : Str} : ∀ (l : List Int) (D : List (PyData × PyData)), (ToldFor D x ∨ ∃ z ∈ l, nameAt z = x) → ToldFor (l.foldl (fun D z => PyProof.V.putD (.str (nameAt z)) (.str (textOf z)) D) D) x
  | [], D, h => h.elim id (fun ⟨_, hm, _⟩ => nomatch hm)
  | z :: r, D, h => by
    rw [List.foldl_cons]
    refine toldFold r _ ?_
    rcases h with h | ⟨z', hm, hz⟩
    · exact .inl (toldPut z (.inl h))
    · rcases List.mem_cons.mp hm with rfl | hm
      · exact .inl (toldPut _ (.inr hz))
      · exact .inr ⟨z', hm, hz⟩
theorem four_told : ∀ x ∈ names4, ∃ z ∈ ([12, 25, 6, 7] : List Int), nameAt z = x := by decide +kernel
theorem table_told (nums : List Int) {x : Str} (hx : x ∈ names4) : ToldFor (tableOf nums) x := by
  rw [tableOf_eq]
  refine toldFold _ _ (.inr ?_)
  obtain ⟨z, hz, e⟩ := four_told x hx
  exact ⟨z, List.mem_append_left _ hz, e⟩
theorem tab_of (nums : List Int) {x : Str} (hx : x ∈ names4) : ∃ z, nameAt z = x ∧ PySem.Spec.lookup (.str x) (tableOf nums) = some (.str (tabAt nums x)) ∧ tabAt nums x = textOf z ∧ mapW nums x = [wayAt z 4, wayAt z 12] := by
  obtain ⟨z, h1, h2⟩ := table_told nums hx
  have h3 : tabAt nums x = textOf z := by
    unfold tabAt
    rw [h2]
  refine ⟨z, h1, by rw [h3]; exact h2, h3, ?_⟩
  unfold mapW
  rw [h3]
  exact ways_http (wayAt z 4) (nameAt_mem _) (wayAt z 12) (nameAt_mem _)
theorem mapOk (nums : List Int) : MapOk nums := by
  refine ⟨?_, ?_, fun x hx => ?_⟩
  · rw [header_parts, List.length_map]
    have := mapXs_len nums
    omega
  · rw [header_parts]
    intro e he
    obtain ⟨z, _, rfl⟩ := List.mem_map.mp he
    exact ⟨Nat.le_trans (partOf_len z) (by decide), _, partOf_keqv z⟩
  · obtain ⟨z, h1, h2, h3, h4⟩ := tab_of nums hx
    refine ⟨h2, ?_, ?_, ?_⟩
    · rw [h3]
      exact Nat.le_trans (text_len (wayAt z 4) (nameAt_mem _) (wayAt z 12) (nameAt_mem _)) (by decide)
    · rw [h4]; rfl
    · rw [h4]
      intro t ht
      simp only [List.mem_cons, List.not_mem_nil, or_false] at ht
      rcases ht with rfl | rfl <;> exact nameAt_mem _
end Mine
-- part KP4
namespace Mine
theorem partKP4 {M : Model} {A : Around} {v : Value} {Q : Value → Shared → Prop} {E : Value → Shared → Prop} {s : Shared} (h : Q v s) : wpAny M A (pure v : Sem Value) Q E s := by
  w_top off
  first | (walk1; exact h) | exact wpAny_pure h
end Mine
open PySem PySem.W PyProof.Rows PySem.Calls
set_option maxRecDepth 100000
set_option maxHeartbeats 400000
namespace Mine
def othersOf (x : Str) : List Str := names4.filter fun y => !(y == x)
theorem others4 : ∀ r k : Fin 4, k.val < 3 → names4.getD ((r.val + 1 + k.val) % 4) (Str.ofString "") ∈ othersOf (names4.getD r.val (Str.ofString "")) := by decide +kernel
theorem nameAt_add (z k : Int) (h0 : 0 ≤ k) (h3 : k < 3) : nameAt (z + 1 + k) ∈ othersOf (nameAt z) := by
  have h := fmod4 z
  have e1 : Int.fmod z 4 = z % 4 := Int.fmod_eq_emod_of_nonneg z (by decide)
  have e2 : Int.fmod (z + 1 + k) 4 = (z + 1 + k) % 4 := Int.fmod_eq_emod_of_nonneg _ (by decide)
  obtain ⟨r, hr⟩ : ∃ r : Nat, z % 4 = r := ⟨(z % 4).toNat, by omega⟩
  obtain ⟨j, hj⟩ : ∃ j : Nat, k = j := ⟨k.toNat, by omega⟩
  subst hj
  have hr4 : r < 4 := by omega
  have := others4 ⟨r, hr4⟩ ⟨j, by omega⟩ (by show j < 3; omega)
  unfold nameAt
  rw [e1, e2, hr]
  have e3 : ((z + 1 + (j : Int)) % 4).toNat = (r + 1 + j) % 4 := by omega
  rw [e3, Int.toNat_natCast]
  exact this
theorem wayAt_others (z s : Int) : wayAt z s ∈ othersOf (nameAt z) := nameAt_add z _ (Int.fmod_nonneg_of_pos _ (by decide)) (Int.fmod_lt_of_pos _ (by decide))
theorem map_shape (nums : List Int) : ∀ x ∈ names4, ∃ b c, b ∈ othersOf x ∧ c ∈ othersOf x ∧ mapW nums x = [b, c] := by
  intro x hx
  obtain ⟨z, h1, _, _, h4⟩ := tab_of nums hx
  exact ⟨wayAt z 4, wayAt z 12, h1 ▸ wayAt_others z 4, h1 ▸ wayAt_others z 12, h4⟩
/-- all rows of the whole graph -/
def allRows : Nat → List (List Str)
  | 0 => [[Str.ofString "a"]]
  | i + 1 => (allRows i).flatMap fun r => (othersOf (r.getLastD (Str.ofString ""))).map fun t => r ++ [t]
theorem others_mem {x t : Str} (h : t ∈ othersOf x) : t ∈ names4 := (List.mem_filter.mp h).1
theorem rows_all {W : Str → List Str} (hW : ∀ x ∈ names4, ∃ b c, b ∈ othersOf x ∧ c ∈ othersOf x ∧ W x = [b, c]) : ∀ i, ∀ r ∈ rowsAt W i, r ∈ allRows i ∧ r.getLastD (Str.ofString "") ∈ names4
  | 0, r, h => by
    rw [rowsAt, List.mem_singleton] at h
    subst h
    exact ⟨.head _, .head _⟩
  | i + 1, r, h => by
    rw [rowsAt, rowsStep, List.mem_flatMap] at h
    obtain ⟨q, hq, h⟩ := h
    obtain ⟨t, ht, rfl⟩ := List.mem_map.mp h
    obtain ⟨h1, h2⟩ := rows_all hW i q hq
    obtain ⟨b, c, hb, hc, e⟩ := hW _ h2
    rw [e] at ht
    have hto : t ∈ othersOf (q.getLastD (Str.ofString "")) := by
      simp only [List.mem_cons, List.not_mem_nil, or_false] at ht
      rcases ht with rfl | rfl <;> assumption
    refine ⟨List.mem_flatMap.mpr ⟨q, h1, List.mem_map.mpr ⟨t, hto, rfl⟩⟩, ?_⟩
    rw [List.getLastD_concat]
    exact others_mem hto
end Mine
-- part KP5
namespace Mine
theorem partKP5 {M : Model} {A : Around} {v : Value} {Q : Value → Shared → Prop} {E : Value → Shared → Prop} {s : Shared} (h : Q v s) : wpAny M A (pure v : Sem Value) Q E s := by
  w_top off
  first | (walk1; exact h) | exact wpAny_pure h
end Mine
open PySem PySem.W PyProof.Rows PySem.Calls
set_option maxRecDepth 100000
set_option maxHeartbeats 400000
namespace Mine
/-- the ancestry, computed -/
def ancF : Nat → Str → Option (List Str)
  | 0, _ => none
  | n + 1, p => if (Txt.rstripChars p (Str.ofString "/")).length = 0 then some [] else (ancF n (splitHead p)).map fun l => p :: l
theorem ancF_ok : ∀ (n : Nat) {p : Str} {l : List Str}, ancF n p = some l → Anc p l
  | 0, p, l, h => by cases h
  | n + 1, p, l, h => by
    unfold ancF at h
    by_cases e : (Txt.rstripChars p (Str.ofString "/")).length = 0
    · rw [if_pos e] at h
      cases h
      exact Anc.nil (by exact_mod_cast e)
    · rw [if_neg e] at h
      cases hq : ancF n (splitHead p) with
      | none => rw [hq] at h; cases h
      | some l' =>
        rw [hq] at h
        cases h
        exact Anc.cons (by exact_mod_cast e) (ancF_ok n hq)
/-- the forward way's path, computed -/
def fwdF : Nat → Str → List Str → Option Str
  | _, p, [] => if p.length ≤ 900 then some p else none
  | k, p, w :: ws => if p.length ≤ 900 then match ancF 20 (Txt.rstripChars p (Str.ofString "/")) with
    | some l => if l.length ≤ 100 then fwdF (k + 1) (fwdStep k p w l) ws else none
    | none => none
    else none
theorem fwdF_ok : ∀ (ws : List Str) {k : Nat} {p q : Str}, fwdF k p ws = some q → Fwd k p ws q
  | [], k, p, q, h => by
    unfold fwdF at h
    split at h
    · cases h; exact Fwd.nil ‹_›
    · cases h
  | w :: ws, k, p, q, h => by
    unfold fwdF at h
    split at h
    · split at h
      · split at h
        · exact Fwd.cons ‹_› ‹_› (ancF_ok _ ‹_›) (fwdF_ok ws h)
        · cases h
      · cases h
    · cases h
/-- the forward way, computed -/
def fwdWay (r : List Str) : Option (List Str) := match fwdF 0 (Str.ofString "") r with
  | some q => match ancF 20 (Txt.rstripChars (q ++ Str.ofString "//") (Str.ofString "/")) with
    | some l' => if l'.length ≤ 100 ∧ (l'.all fun one => decide (one.length ≤ 1000) && (Txt.split one (Str.ofString "/")).getLast?.isSome) = true then some (fwdOut q l') else none
    | none => none
  | none => none
def bwdWay (r : List Str) : Option (List Str) := match r with
  | [w0, w1, w2, w3, w4] => if ((backEs w0 w1 w2 w3 w4).all fun e => (keqvOf e).isSome) = true then backGo (keqvAt (backEs w0 w1 w2 w3 w4) (backEs w0 w1 w2 w3 w4).length) w0 4 [w4] else none
  | _ => none
def fw (r : List Str) : List Str := (fwdWay r).getD []
def bw (r : List Str) : List Str := (bwdWay r).getD []
/-- what is decided of a row -/
def rowChk (r : List Str) : Bool := (fwdWay r).isSome && (bwdWay r).isSome && decide (r.length = 5) && r.all (fun x => decide (x.length ≤ 10)) && ((fw r) ++ (bw r) ++ roadsOf r).all PyData.strOk
/-- the rows with both their ways, told; each told way is checked (nine rows at a time) -/
def nmA : Str := ⟨#[97]⟩
def nmB : Str := ⟨#[97, 98]⟩
def nmC : Str := ⟨#[98, 32, 97]⟩
def nmD : Str := ⟨#[99, 92]⟩
def tab0 : List (List Str × List Str × List Str) := [
  ([nmA, nmB, nmA, nmB, nmA], [nmA], [nmA]),
  ([nmA, nmB, nmA, nmB, nmC], [nmA, nmB, nmC], [nmA, nmB, nmC]),
  ([nmA, nmB, nmA, nmB, nmD], [nmA, nmB, nmD], [nmA, nmB, nmD]),
  ([nmA, nmB, nmA, nmC, nmA], [nmA], [nmA]),
  ([nmA, nmB, nmA, nmC, nmB], [nmA, nmC, nmB], [nmA, nmB]),
  ([nmA, nmB, nmA, nmC, nmD], [nmA, nmC, nmD], [nmA, nmC, nmD]),
  ([nmA, nmB, nmA, nmD, nmA], [nmA], [nmA]),
  ([nmA, nmB, nmA, nmD, nmB], [nmA, nmD, nmB], [nmA, nmB]),
  ([nmA, nmB, nmA, nmD, nmC], [nmA, nmD, nmC], [nmA, nmD, nmC])]
theorem tab0_ok : ∀ e ∈ tab0, fwdWay e.1 = some e.2.1 ∧ bwdWay e.1 = some e.2.2 := by decide +kernel
def tab1 : List (List Str × List Str × List Str) := [
  ([nmA, nmB, nmC, nmA, nmB], [nmA, nmB], [nmA, nmB]),
  ([nmA, nmB, nmC, nmA, nmC], [nmA, nmC], [nmA, nmB, nmC]),
  ([nmA, nmB, nmC, nmA, nmD], [nmA, nmD], [nmA, nmD]),
  ([nmA, nmB, nmC, nmB, nmA], [nmA], [nmA]),
  ([nmA, nmB, nmC, nmB, nmC], [nmA, nmB, nmC], [nmA, nmB, nmC]),
  ([nmA, nmB, nmC, nmB, nmD], [nmA, nmB, nmD], [nmA, nmB, nmD]),
  ([nmA, nmB, nmC, nmD, nmA], [nmA], [nmA]),
  ([nmA, nmB, nmC, nmD, nmB], [nmA, nmB], [nmA, nmB]),
  ([nmA, nmB, nmC, nmD, nmC], [nmA, nmB, nmC], [nmA, nmB, nmC])]
theorem tab1_ok : ∀ e ∈ tab1, fwdWay e.1 = some e.2.1 ∧ bwdWay e.1 = some e.2.2 := by decide +kernel
def tab2 : List (List Str × List Str × List Str) := [
  ([nmA, nmB, nmD, nmA, nmB], [nmA, nmB], [nmA, nmB]),
  ([nmA, nmB, nmD, nmA, nmC], [nmA, nmC], [nmA, nmC]),
  ([nmA, nmB, nmD, nmA, nmD], [nmA, nmD], [nmA, nmB, nmD]),
  ([nmA, nmB, nmD, nmB, nmA], [nmA], [nmA]),
  ([nmA, nmB, nmD, nmB, nmC], [nmA, nmB, nmC], [nmA, nmB, nmC]),
  ([nmA, nmB, nmD, nmB, nmD], [nmA, nmB, nmD], [nmA, nmB, nmD]),
  ([nmA, nmB, nmD, nmC, nmA], [nmA], [nmA]),
  ([nmA, nmB, nmD, nmC, nmB], [nmA, nmB], [nmA, nmB]),
  ([nmA, nmB, nmD, nmC, nmD], [nmA, nmB, nmD], [nmA, nmB, nmD])]
theorem tab2_ok : ∀ e ∈ tab2, fwdWay e.1 = some e.2.1 ∧ bwdWay e.1 = some e.2.2 := by decide +kernel
def tab3 : List (List Str × List Str × List Str) := [
  ([nmA, nmC, nmA, nmB, nmA], [nmA], [nmA]),
  ([nmA, nmC, nmA, nmB, nmC], [nmA, nmB, nmC], [nmA, nmC]),
  ([nmA, nmC, nmA, nmB, nmD], [nmA, nmB, nmD], [nmA, nmB, nmD]),
  ([nmA, nmC, nmA, nmC, nmA], [nmA], [nmA]),
  ([nmA, nmC, nmA, nmC, nmB], [nmA, nmC, nmB], [nmA, nmC, nmB]),
  ([nmA, nmC, nmA, nmC, nmD], [nmA, nmC, nmD], [nmA, nmC, nmD]),
  ([nmA, nmC, nmA, nmD, nmA], [nmA], [nmA]),
  ([nmA, nmC, nmA, nmD, nmB], [nmA, nmD, nmB], [nmA, nmD, nmB]),
  ([nmA, nmC, nmA, nmD, nmC], [nmA, nmD, nmC], [nmA, nmC])]
theorem tab3_ok : ∀ e ∈ tab3, fwdWay e.1 = some e.2.1 ∧ bwdWay e.1 = some e.2.2 := by decide +kernel
def tab4 : List (List Str × List Str × List Str) := [
  ([nmA, nmC, nmB, nmA, nmB], [nmA, nmB], [nmA, nmC, nmB]),
  ([nmA, nmC, nmB, nmA, nmC], [nmA, nmC], [nmA, nmC]),
  ([nmA, nmC, nmB, nmA, nmD], [nmA, nmD], [nmA, nmD]),
  ([nmA, nmC, nmB, nmC, nmA], [nmA], [nmA]),
  ([nmA, nmC, nmB, nmC, nmB], [nmA, nmC, nmB], [nmA, nmC, nmB]),
  ([nmA, nmC, nmB, nmC, nmD], [nmA, nmC, nmD], [nmA, nmC, nmD]),
  ([nmA, nmC, nmB, nmD, nmA], [nmA], [nmA]),
  ([nmA, nmC, nmB, nmD, nmB], [nmA, nmC, nmB], [nmA, nmC, nmB]),
  ([nmA, nmC, nmB, nmD, nmC], [nmA, nmC], [nmA, nmC])]
theorem tab4_ok : ∀ e ∈ tab4, fwdWay e.1 = some e.2.1 ∧ bwdWay e.1 = some e.2.2 := by decide +kernel
def tab5 : List (List Str × List Str × List Str) := [
  ([nmA, nmC, nmD, nmA, nmB], [nmA, nmB], [nmA, nmB]),
  ([nmA, nmC, nmD, nmA, nmC], [nmA, nmC], [nmA, nmC]),
  ([nmA, nmC, nmD, nmA, nmD], [nmA, nmD], [nmA, nmC, nmD]),
  ([nmA, nmC, nmD, nmB, nmA], [nmA], [nmA]),
  ([nmA, nmC, nmD, nmB, nmC], [nmA, nmC], [nmA, nmC]),
  ([nmA, nmC, nmD, nmB, nmD], [nmA, nmC, nmD], [nmA, nmC, nmD]),
  ([nmA, nmC, nmD, nmC, nmA], [nmA], [nmA]),
  ([nmA, nmC, nmD, nmC, nmB], [nmA, nmC, nmB], [nmA, nmC, nmB]),
  ([nmA, nmC, nmD, nmC, nmD], [nmA, nmC, nmD], [nmA, nmC, nmD])]
theorem tab5_ok : ∀ e ∈ tab5, fwdWay e.1 = some e.2.1 ∧ bwdWay e.1 = some e.2.2 := by decide +kernel
def tab6 : List (List Str × List Str × List Str) := [
  ([nmA, nmD, nmA, nmB, nmA], [nmA], [nmA]),
  ([nmA, nmD, nmA, nmB, nmC], [nmA, nmB, nmC], [nmA, nmB, nmC]),
  ([nmA, nmD, nmA, nmB, nmD], [nmA, nmB, nmD], [nmA, nmD]),
  ([nmA, nmD, nmA, nmC, nmA], [nmA], [nmA]),
  ([nmA, nmD, nmA, nmC, nmB], [nmA, nmC, nmB], [nmA, nmC, nmB]),
  ([nmA, nmD, nmA, nmC, nmD], [nmA, nmC, nmD], [nmA, nmD]),
  ([nmA, nmD, nmA, nmD, nmA], [nmA], [nmA]),
  ([nmA, nmD, nmA, nmD, nmB], [nmA, nmD, nmB], [nmA, nmD, nmB]),
  ([nmA, nmD, nmA, nmD, nmC], [nmA, nmD, nmC], [nmA, nmD, nmC])]
theorem tab6_ok : ∀ e ∈ tab6, fwdWay e.1 = some e.2.1 ∧ bwdWay e.1 = some e.2.2 := by decide +kernel
def tab7 : List (List Str × List Str × List Str) := [
  ([nmA, nmD, nmB, nmA, nmB], [nmA, nmB], [nmA, nmD, nmB]),
  ([nmA, nmD, nmB, nmA, nmC], [nmA, nmC], [nmA, nmC]),
  ([nmA, nmD, nmB, nmA, nmD], [nmA, nmD], [nmA, nmD]),
  ([nmA, nmD, nmB, nmC, nmA], [nmA], [nmA]),
  ([nmA, nmD, nmB, nmC, nmB], [nmA, nmD, nmB], [nmA, nmD, nmB]),
  ([nmA, nmD, nmB, nmC, nmD], [nmA, nmD], [nmA, nmD]),
  ([nmA, nmD, nmB, nmD, nmA], [nmA], [nmA]),
  ([nmA, nmD, nmB, nmD, nmB], [nmA, nmD, nmB], [nmA, nmD, nmB]),
  ([nmA, nmD, nmB, nmD, nmC], [nmA, nmD, nmC], [nmA, nmD, nmC])]
theorem tab7_ok : ∀ e ∈ tab7, fwdWay e.1 = some e.2.1 ∧ bwdWay e.1 = some e.2.2 := by decide +kernel
def tab8 : List (List Str × List Str × List Str) := [
  ([nmA, nmD, nmC, nmA, nmB], [nmA, nmB], [nmA, nmB]),
  ([nmA, nmD, nmC, nmA, nmC], [nmA, nmC], [nmA, nmD, nmC]),
  ([nmA, nmD, nmC, nmA, nmD], [nmA, nmD], [nmA, nmD]),
  ([nmA, nmD, nmC, nmB, nmA], [nmA], [nmA]),
  ([nmA, nmD, nmC, nmB, nmC], [nmA, nmD, nmC], [nmA, nmD, nmC]),
  ([nmA, nmD, nmC, nmB, nmD], [nmA, nmD], [nmA, nmD]),
  ([nmA, nmD, nmC, nmD, nmA], [nmA], [nmA]),
  ([nmA, nmD, nmC, nmD, nmB], [nmA, nmD, nmB], [nmA, nmD, nmB]),
  ([nmA, nmD, nmC, nmD, nmC], [nmA, nmD, nmC], [nmA, nmD, nmC])]
theorem tab8_ok : ∀ e ∈ tab8, fwdWay e.1 = some e.2.1 ∧ bwdWay e.1 = some e.2.2 := by decide +kernel
def tabW : List (List Str × List Str × List Str) := tab0 ++ (tab1 ++ (tab2 ++ (tab3 ++ (tab4 ++ (tab5 ++ (tab6 ++ (tab7 ++ (tab8))))))))
theorem tabW_rows : allRows 4 = tabW.map fun e => e.1 := by decide +kernel
theorem tabW_ok : ∀ e ∈ tabW, fwdWay e.1 = some e.2.1 ∧ bwdWay e.1 = some e.2.2 := by
  unfold tabW
  simp only [List.forall_mem_append]
  exact ⟨tab0_ok, tab1_ok, tab2_ok, tab3_ok, tab4_ok, tab5_ok, tab6_ok, tab7_ok, tab8_ok⟩
theorem fw_tab (e : List Str × List Str × List Str) (h : e ∈ tabW) : fw e.1 = e.2.1 := by unfold fw; rw [(tabW_ok e h).1]; rfl
theorem bw_tab (e : List Str × List Str × List Str) (h : e ∈ tabW) : bw e.1 = e.2.2 := by unfold bw; rw [(tabW_ok e h).2]; rfl
def restChk (e : List Str × List Str × List Str) : Bool := decide (e.1.length = 5) && e.1.all (fun x => decide (x.length ≤ 10)) && (e.2.1 ++ e.2.2 ++ roadsOf e.1).all PyData.strOk
theorem tabW_rest : ∀ e ∈ tabW, restChk e = true := by decide +kernel
theorem rows_chk : ∀ r ∈ allRows 4, rowChk r = true := by
  intro r hr
  rw [tabW_rows] at hr
  obtain ⟨e, he, rfl⟩ := List.mem_map.mp hr
  have h3 := tabW_rest e he
  unfold restChk at h3
  unfold rowChk
  rw [fw_tab e he, bw_tab e he, (tabW_ok e he).1, (tabW_ok e he).2]
  simp only [Option.isSome_some, Bool.true_and]
  exact h3
end Mine
-- part KP6
namespace Mine
theorem partKP6 {M : Model} {A : Around} {v : Value} {Q : Value → Shared → Prop} {E : Value → Shared → Prop} {s : Shared} (h : Q v s) : wpAny M A (pure v : Sem Value) Q E s := by
  w_top off
  first | (walk1; exact h) | exact wpAny_pure h
end Mine
open PySem PySem.W PyProof.Rows PySem.Calls
set_option maxRecDepth 100000
set_option maxHeartbeats 400000
namespace Mine
theorem rowOk_of {r : List Str} (h : rowChk r = true) : RowOk r (fw r) (bw r) ∧ ∀ x ∈ fw r ++ bw r ++ roadsOf r, PyData.strOk x = true := by
  unfold rowChk at h
  simp only [Bool.and_eq_true, decide_eq_true_eq, Option.isSome_iff_exists] at h
  obtain ⟨⟨⟨⟨⟨f, hf⟩, ⟨b, hb⟩⟩, h5⟩, h10⟩, hok⟩ := h
  refine ⟨?_, fun x hx => List.all_eq_true.mp hok x hx⟩
  match r, h5 with
  | [w0, w1, w2, w3, w4], _ =>
    have ef : fw [w0, w1, w2, w3, w4] = f := by unfold fw; rw [hf]; rfl
    have eb : bw [w0, w1, w2, w3, w4] = b := by unfold bw; rw [hb]; rfl
    rw [ef, eb]
    unfold fwdWay at hf
    split at hf
    · rename_i q hq
      split at hf
      · rename_i l' hl'
        split at hf
        · rename_i hc
          cases hf
          unfold bwdWay at hb
          dsimp only at hb
          split at hb
          · rename_i he
            refine ⟨w0, w1, w2, w3, w4, q, l', rfl, fwdF_ok _ hq, ⟨ancF_ok _ hl', hc.1, fun one ho => ?_⟩, rfl, fun e he' => ?_, hb, fun x hx => ?_⟩
            · have := List.all_eq_true.mp hc.2 one ho
              simp only [Bool.and_eq_true, decide_eq_true_eq] at this
              exact ⟨this.1, Option.isSome_iff_exists.mp this.2⟩
            · exact Option.isSome_iff_exists.mp (List.all_eq_true.mp he e he')
            · simpa using List.all_eq_true.mp h10 x hx
          · cases hb
        · cases hf
      · cases hf
    · cases hf
end Mine
-- part KP7
namespace Mine
theorem partKP7 {M : Model} {A : Around} {v : Value} {Q : Value → Shared → Prop} {E : Value → Shared → Prop} {s : Shared} (h : Q v s) : wpAny M A (pure v : Sem Value) Q E s := by
  w_top off
  first | (walk1; exact h) | exact wpAny_pure h
end Mine
open PySem PySem.W PyProof.Rows PySem.Calls
set_option maxRecDepth 100000
set_option maxHeartbeats 400000
namespace Mine
theorem count_map_snoc (r q : List Str) (t : Str) : ∀ l : List Str, List.count (q ++ [t]) (l.map fun x => r ++ [x]) = if r = q then List.count t l else 0
  | [] => by simp
  | x :: l => by
    rw [List.map_cons, List.count_cons, count_map_snoc r q t l, List.count_cons]
    by_cases h : r = q
    · subst h
      rw [if_pos rfl, if_pos rfl]
      congr 1
      by_cases hx : x = t
      · subst hx; simp
      · simp [hx]
    · rw [if_neg h, if_neg h]
      have h1 : (r ++ [x] == q ++ [t]) = false := by
        rw [beq_eq_false_iff_ne]
        exact fun e => h (List.append_inj_left' e rfl)
      rw [h1]
      rfl
theorem count_step (W : Str → List Str) (q : List Str) (t : Str) : ∀ rs : List (List Str), List.count (q ++ [t]) (rowsStep W rs) = List.count q rs * List.count t (W (q.getLastD (Str.ofString "")))
  | [] => by simp [rowsStep]
  | r :: rs => by
    have h := count_step W q t rs
    unfold rowsStep at h ⊢
    rw [List.flatMap_cons, List.count_append, h, count_map_snoc, List.count_cons, Nat.add_mul]
    by_cases e : r = q
    · subst e
      simp [Nat.add_comm]
    · have e' : (r == q) = false := by simpa using e
      rw [if_neg e, e']
      simp
/-- how often a road is told -/
def roadN (W : Str → List Str) (e : Str) : Nat := match keqvOf e with
  | some (p, q) => List.count q (W p)
  | none => 0
theorem road_keqv : ∀ p ∈ names4, ∀ q ∈ names4, keqvOf (p ++ Str.ofString "=" ++ q) = some (p, q) := by decide +kernel
def prodN (l : List Nat) : Nat := l.foldr (· * ·) 1
theorem prodN_perm {a b : List Nat} (h : a.Perm b) : prodN a = prodN b := by
  unfold prodN
  induction h with
  | nil => rfl
  | cons x _ ih => simp only [List.foldr_cons, ih]
  | swap x y l => simp only [List.foldr_cons]; rw [← Nat.mul_assoc, ← Nat.mul_assoc, Nat.mul_comm y x]
  | trans _ _ h1 h2 => exact h1.trans h2
theorem prodN_append (a b : List Nat) : prodN (a ++ b) = prodN a * prodN b := by
  induction a with
  | nil => simp [prodN]
  | cons x r ih => simp only [prodN, List.cons_append, List.foldr_cons] at *; rw [ih, Nat.mul_assoc]
theorem roads_snoc : ∀ (q : List Str) (t : Str), q ≠ [] → roadsOf (q ++ [t]) = roadsOf q ++ [q.getLastD (Str.ofString "") ++ Str.ofString "=" ++ t]
  | [], _, h => absurd rfl h
  | [x], t, _ => by simp [roadsOf]
  | x :: y :: r, t, _ => by
    have h := roads_snoc (y :: r) t (by simp)
    unfold roadsOf at h ⊢
    simp only [List.cons_append, List.drop_succ_cons, List.drop_zero, List.zipWith_cons_cons] at h ⊢
    rw [h]
    simp
theorem all_shape : ∀ i, ∀ r ∈ allRows i, r ≠ [] ∧ r.getLastD (Str.ofString "") ∈ names4
  | 0, r, h => by
    rw [allRows, List.mem_singleton] at h
    subst h
    exact ⟨by simp, .head _⟩
  | i + 1, r, h => by
    rw [allRows, List.mem_flatMap] at h
    obtain ⟨q, _, h⟩ := h
    obtain ⟨t, ht, rfl⟩ := List.mem_map.mp h
    refine ⟨by simp, ?_⟩
    rw [List.getLastD_concat]
    exact others_mem ht
theorem count_rows (W : Str → List Str) : ∀ i, ∀ r ∈ allRows i, List.count r (rowsAt W i) = prodN ((roadsOf r).map (roadN W))
  | 0, r, h => by
    rw [allRows, List.mem_singleton] at h
    subst h
    simp [rowsAt, roadsOf, prodN]
  | i + 1, r, h => by
    rw [allRows, List.mem_flatMap] at h
    obtain ⟨q, hq, h⟩ := h
    obtain ⟨t, ht, rfl⟩ := List.mem_map.mp h
    obtain ⟨h1, h2⟩ := all_shape i q hq
    rw [rowsAt, count_step, count_rows W i q hq, roads_snoc q t h1, List.map_append, prodN_append]
    congr 1
    simp only [List.map_cons, List.map_nil, prodN, List.foldr_cons, List.foldr_nil, Nat.mul_one]
    unfold roadN
    rw [road_keqv _ h2 _ (others_mem ht)]
end Mine
-- part KP8
namespace Mine
theorem partKP8 {M : Model} {A : Around} {v : Value} {Q : Value → Shared → Prop} {E : Value → Shared → Prop} {s : Shared} (h : Q v s) : wpAny M A (pure v : Sem Value) Q E s := by
  w_top off
  first | (walk1; exact h) | exact wpAny_pure h
end Mine
open PySem PySem.W PyProof.Rows PySem.Calls
set_option maxRecDepth 100000
set_option maxHeartbeats 400000
namespace Mine
def insC (x : Str) : List Str → List Str
  | [] => [x]
  | y :: l => if strLt x y = true then x :: y :: l else y :: insC x l
def sortC : List Str → List Str
  | [] => []
  | x :: l => insC x (sortC l)
theorem insC_perm (x : Str) : ∀ l : List Str, (insC x l).Perm (x :: l)
  | [] => .refl _
  | y :: l => by
    unfold insC
    split
    · exact .refl _
    · exact ((insC_perm x l).cons y).trans (.swap x y l)
theorem sortC_perm : ∀ l : List Str, (sortC l).Perm l
  | [] => .refl _
  | x :: l => (insC_perm x _).trans ((sortC_perm l).cons x)
theorem insC_sorted (x : Str) : ∀ l : List Str, l.Pairwise (fun a b => strLt b a = false) → (insC x l).Pairwise (fun a b => strLt b a = false)
  | [], _ => by simp [insC]
  | y :: l, h => by
    unfold insC
    obtain ⟨h1, h2⟩ := List.pairwise_cons.mp h
    split
    · rename_i hxy
      refine List.pairwise_cons.mpr ⟨fun z hz => ?_, h⟩
      rcases List.mem_cons.mp hz with rfl | hz
      · exact strLt_asymm _ _ hxy
      · exact strLt_trans _ _ _ (strLt_asymm _ _ hxy) (h1 z hz)
    · rename_i hxy
      refine List.pairwise_cons.mpr ⟨fun z hz => ?_, insC_sorted x l h2⟩
      rcases List.mem_cons.mp ((insC_perm x l).mem_iff.mp hz) with rfl | hz
      · simpa using hxy
      · exact h1 z hz
theorem sortC_sorted : ∀ l : List Str, (sortC l).Pairwise fun a b => strLt b a = false
  | [] => .nil
  | x :: l => insC_sorted x _ (sortC_sorted l)
theorem sortStr_C (l : List Str) : sortStr l = sortC l := (sortStr_eq (sortC_perm l) (sortC_sorted l)).symm
def fk (r : List Str) : Key := (fw r, sortC (roadsOf r))
def bk (r : List Str) : Key := (bw r, sortC (roadsOf r))
theorem tabW_perm : (tabW.map fun e => ((e.2.1, sortC (roadsOf e.1)) : Key)).Perm (tabW.map fun e => ((e.2.2, sortC (roadsOf e.1)) : Key)) := by decide +kernel
theorem fk_tab : (allRows 4).map fk = tabW.map fun e => ((e.2.1, sortC (roadsOf e.1)) : Key) := by
  rw [tabW_rows, List.map_map]
  refine List.map_congr_left fun e he => ?_
  show ((fw e.1, sortC (roadsOf e.1)) : Key) = _
  rw [fw_tab e he]
theorem bk_tab : (allRows 4).map bk = tabW.map fun e => ((e.2.2, sortC (roadsOf e.1)) : Key) := by
  rw [tabW_rows, List.map_map]
  refine List.map_congr_left fun e he => ?_
  show ((bw e.1, sortC (roadsOf e.1)) : Key) = _
  rw [bw_tab e he]
theorem all_perm : ((allRows 4).map fk).Perm ((allRows 4).map bk) := by
  rw [fk_tab, bk_tab]
  exact tabW_perm
theorem all_nodup : (allRows 4).Nodup := by decide +kernel
end Mine
-- part KP9
namespace Mine
theorem partKP9 {M : Model} {A : Around} {v : Value} {Q : Value → Shared → Prop} {E : Value → Shared → Prop} {s : Shared} (h : Q v s) : wpAny M A (pure v : Sem Value) Q E s := by
  w_top off
  first | (walk1; exact h) | exact wpAny_pure h
end Mine
open PySem PySem.W PyProof.Rows PySem.Calls
set_option maxRecDepth 100000
set_option maxHeartbeats 400000
namespace Mine
section
variable {α : Type} [BEq α] [LawfulBEq α]
theorem sum_one (p : α → Bool) (x : α) : ∀ U : List α, (U.map fun r => if p r = true then (if (x == r) = true then 1 else 0) else 0).sum = if p x = true then List.count x U else 0
  | [] => by simp
  | u :: U => by
    rw [List.map_cons, List.sum_cons, sum_one p x U, List.count_cons]
    cases h : (x == u) with
    | true =>
      have e := eq_of_beq h
      subst e
      by_cases hp : p x = true <;> simp [hp, Nat.add_comm]
    | false =>
      have h' : (u == x) = false := by rw [beq_eq_false_iff_ne] at h ⊢; exact fun e => h e.symm
      rw [h']
      simp
theorem sum_add (f g : α → Nat) : ∀ U : List α, (U.map fun r => f r + g r).sum = (U.map f).sum + (U.map g).sum
  | [] => rfl
  | u :: U => by
    rw [List.map_cons, List.map_cons, List.map_cons, List.sum_cons, List.sum_cons, List.sum_cons, sum_add f g U]
    omega
theorem countP_sum (p : α → Bool) (U : List α) (hU : U.Nodup) : ∀ l : List α, (∀ x ∈ l, x ∈ U) → List.countP p l = (U.map fun r => if p r = true then List.count r l else 0).sum
  | [], _ => by
    induction U with
    | nil => rfl
    | cons u U ih =>
      rw [List.map_cons, List.sum_cons, ← ih (List.nodup_cons.mp hU).2 (fun _ h => nomatch h)]
      simp
  | x :: l, h => by
    have ih := countP_sum p U hU l fun y hy => h y (.tail _ hy)
    have h1 : List.count x U = 1 := by rw [hU.count, if_pos (h x (.head _))]
    have h2 := sum_one p x U
    have h3 := sum_add (fun r => if p r = true then List.count r l else 0) (fun r => if p r = true then (if (x == r) = true then 1 else 0) else 0) U
    have h4 : (U.map fun r => if p r = true then List.count r (x :: l) else 0) = U.map fun r => (if p r = true then List.count r l else 0) + (if p r = true then (if (x == r) = true then 1 else 0) else 0) := by
      apply List.map_congr_left
      intro r _
      by_cases hp : p r = true
      · rw [if_pos hp, if_pos hp, if_pos hp, List.count_cons]
      · rw [if_neg hp, if_neg hp, if_neg hp]
    rw [h4, h3, ← ih, h2, h1, List.countP_cons]
theorem sum_const (p : α → Bool) (c : α → Nat) (M : Nat) : ∀ U : List α, (∀ r ∈ U, p r = true → c r = M) → (U.map fun r => if p r = true then c r else 0).sum = List.countP p U * M
  | [], _ => by simp
  | u :: U, h => by
    rw [List.map_cons, List.sum_cons, sum_const p c M U fun r hr => h r (.tail _ hr), List.countP_cons]
    by_cases hp : p u = true
    · rw [if_pos hp, if_pos hp, h u (.head _) hp, Nat.add_mul, Nat.one_mul, Nat.add_comm]
    · rw [if_neg hp, if_neg hp]; simp
end
theorem rows_perm {W : Str → List Str} (hW : ∀ x ∈ names4, ∃ b c, b ∈ othersOf x ∧ c ∈ othersOf x ∧ W x = [b, c]) : ((rowsAt W 4).map fk).Perm ((rowsAt W 4).map bk) := by
  rw [List.perm_iff_count]
  intro key
  have hin : ∀ r ∈ rowsAt W 4, r ∈ allRows 4 := fun r hr => (rows_all hW 4 r hr).1
  have one : ∀ f : List Str → Key, (∀ r, (f r).2 = sortC (roadsOf r)) → List.count key ((rowsAt W 4).map f) = List.count key ((allRows 4).map f) * prodN (key.2.map (roadN W)) := by
    intro f hf
    rw [List.count_eq_countP, List.count_eq_countP, List.countP_map, List.countP_map, countP_sum _ _ all_nodup _ hin]
    refine sum_const _ _ _ _ fun r hr hp => ?_
    have e : f r = key := by simpa using hp
    rw [count_rows W 4 r hr, ← e, hf r]
    exact prodN_perm ((sortC_perm (roadsOf r)).map (roadN W)).symm
  rw [one fk fun _ => rfl, one bk fun _ => rfl, List.perm_iff_count.mp all_perm key]
end Mine
-- part KJ
namespace Mine
theorem partKJ {M : Model} {A : Around} {v : Value} {Q : Value → Shared → Prop} {E : Value → Shared → Prop} {s : Shared} (h : Q v s) : wpAny M A (pure v : Sem Value) Q E s := by
  w_top off
  first | (walk1; exact h) | exact wpAny_pure h
end Mine
open PySem PySem.W PyProof.Rows PySem.Calls
set_option maxRecDepth 100000
set_option maxHeartbeats 400000
namespace Mine
theorem rows_len {W : Str → List Str} (hW : ∀ x ∈ names4, ∃ b c, b ∈ othersOf x ∧ c ∈ othersOf x ∧ W x = [b, c]) : ∀ i, (rowsAt W i).length = 2 ^ i
  | 0 => rfl
  | i + 1 => by
    have h1 := rows_all hW i
    rw [rowsAt, Nat.pow_succ, ← rows_len hW i]
    generalize rowsAt W i = rs at h1
    induction rs with
    | nil => rfl
    | cons r rs ih =>
      obtain ⟨b, c, _, _, e⟩ := hW _ (h1 r (.head _)).2
      have h2 := ih fun q hq => h1 q (.tail _ hq)
      unfold rowsStep at h2 ⊢
      rw [List.flatMap_cons, List.length_append, h2, e, List.length_cons, List.length_map]
      show 2 + rs.length * 2 = (rs.length + 1) * 2
      omega
theorem law_perm (nums : List Int) : ((rowsAt (mapW nums) 4).map fun r => ((fw r, sortStr (roadsOf r)) : Key)).Perm ((rowsAt (mapW nums) 4).map fun r => ((bw r, sortStr (roadsOf r)) : Key)) := by
  have h := rows_perm (map_shape nums)
  have e1 : fk = fun r => ((fw r, sortStr (roadsOf r)) : Key) := by funext r; rw [sortStr_C]; rfl
  have e2 : bk = fun r => ((bw r, sortStr (roadsOf r)) : Key) := by funext r; rw [sortStr_C]; rfl
  rw [e1, e2] at h
  exact h
theorem law_rows (nums : List Int) : ∀ r ∈ rowsAt (mapW nums) 4, RowOk r (fw r) (bw r) ∧ KeyOk (fw r, sortStr (roadsOf r)) ∧ KeyOk (bw r, sortStr (roadsOf r)) := by
  intro r hr
  obtain ⟨h1, h2⟩ := rowOk_of (rows_chk r (rows_all (map_shape nums) 4 r hr).1)
  have hs : ∀ x ∈ sortStr (roadsOf r), PyData.strOk x = true := fun x hx => h2 x (List.mem_append_right _ ((List.mergeSort_perm _ _).mem_iff.mp hx))
  exact ⟨h1, ⟨fun x hx => h2 x (List.mem_append_left _ (List.mem_append_left _ hx)), hs⟩, fun x hx => h2 x (List.mem_append_left _ (List.mem_append_right _ hx)), hs⟩
section
variable {w : World} {dp un : Nat} {fr : Option (List Env)} {gd : Option (List Code)} {s : Shared} {mean : ExcName → Option Value} {mg mb : Str → Option Value}
theorem c_lawT {R : Result → Shared → Prop} {sc : Addr} {vals : List Value} {nums : List Int} (X : (hd.heap_39 w.params).In s.heap) (T : Top hd.view_39 (looseW hd.view_39 []) mean mg mb s.heap) (hroom : dp + 400 < recursionLimit) (hu : un + 4000 < cLine)
    (hL : s.heap.IsList sc vals.toArray) (hI : IntsAre vals nums) (h63 : nums.length ≤ 63) (hbare : AllBare s.gens)
    (h : ∀ s', Keep s.heap s'.heap → AllBare s'.gens → s'.os = s.os → R (.ok (.ret (.bool true))) s') :
    codeAny (model PySem.Challenge.rw_kl0414_01.row.prog w) (Around.mk none dp fr gd un) (.call (.ref 86) ⟨[.ref sc], []⟩) R s :=
  c_law X T hroom hu hL hI h63 hbare (mapOk nums) (fun r hr => (law_rows nums r hr).1) (by rw [rows_len (map_shape nums)]; decide) (by rw [rows_len (map_shape nums)]; decide) (fun r hr => (law_rows nums r hr).2) (law_perm nums) h
end
end Mine
-- part KE
namespace Mine
theorem partKE {M : Model} {A : Around} {v : Value} {Q : Value → Shared → Prop} {E : Value → Shared → Prop} {s : Shared} (h : Q v s) : wpAny M A (pure v : Sem Value) Q E s := by
  w_top off
  first | (walk1; exact h) | exact wpAny_pure h
end Mine
open PySem PySem.W PyProof.Rows PySem.Calls
set_option maxRecDepth 100000
set_option maxHeartbeats 8000000
theorem PySem.Challenge.cw_kl0414_01_holds : PySem.Challenge.rw_kl0414_01.Holds := by
  refine Mine.hd ?_
  k_fill
  intro w s₀ s₁ mg mb G Y fa o pm cd doc dV kV ho hd hcd hD hmg hg args vals as hpre hlay hrd hwl hlo
  have KX := kIn_of Y
  refine Ground.open G ?_
  intro T B D TE TW
  have hfa := mg_of (n := Str.ofString "law") (v := .ref 86) KX (Top.g T) (by kernel_rfl)
  have hfe := hmg.symm.trans hfa
  clear ho hd hcd hD hmg hfa
  injection hfe with hfe
  injection hfe with hfe
  subst hfe
  wrow_args hpre hlay hrd hwl hlo
  rename_i nums _ _ _ _ _ _ _ sc vals _ hL _ _ _ hI _ h63 _
  refine enter_call ?_
  refine Mine.c_lawT (vals := vals) (nums := nums) KX T (by decide) (by decide) hL hI ?_ ?_ ?_
  · clear KX T B D TE TW hL hI
    omega
  · exact .of_eq hg
  · intro s' hk hb hos
    refine ⟨.inl ⟨_, _, [], rfl, fun _ => rfl, ReadsW.bool true, ?_, fun _ => ⟨List.nodup_nil, fun _ hm => (nomatch hm)⟩⟩, .of_keep hk, hos, hb⟩
    first | rfl | wrow_post
