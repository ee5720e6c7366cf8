import PyProof.Rows.All
import Wide.All
import OpenK.AllK
import Wide.FinOn
import Lean
import PySem.Challenge.RW_rw0052_01
section
open PySem PySem.W PyProof.Rows
set_option Elab.async false
set_option maxRecDepth 100000
set_option maxHeartbeats 8000000
namespace Mine
open_top hd for PySem.Challenge.rw_rw0052_01
end Mine
end
section
open PySem PySem.W PyProof.Rows PySem.Calls
set_option Elab.async false
set_option maxRecDepth 100000
set_option maxHeartbeats 1000000
namespace Mine
noncomputable abbrev KK (w : World) : Frag := Mine.hd.heap_39 w.params
noncomputable abbrev MM (w : World) : Model := model PySem.Challenge.pw_rw0052_01 w
/-- what every heap at hand bears of the top -/
structure Base (w : World) (h : Heap) : Prop where
  k : (KK w).In h
  top : ∃ p loose mg mb, TopRead p loose mg mb h
theorem Base.keeps {w : World} {h h' : Heap} (B : Base w h) (k : ∀ b o, h.get? b = some o → h'.get? b = some o) : Base w h' :=
  ⟨B.k.keeps k, let ⟨p, l, mg, mb, T⟩ := B.top; ⟨p, l, mg, mb, T.keeps k⟩⟩
theorem Base.nolimit {w : World} {h : Heap} (B : Base w h) : h.NoLimit := let ⟨_, _, _, _, T⟩ := B.top; T.nolimit
noncomputable def Has (m : Str → Option Value) (l : List (Str × Value)) : Prop := ∀ x v, l.lookup x = some v → m x = some v
theorem Has.nil {m : Str → Option Value} : Has m [] := fun _ _ h => by cases h
theorem Has.put {m : Str → Option Value} {l : List (Str × Value)} (H : Has m l) (x : Str) (v : Value) : Has (fun y => if y = x then some v else m y) ((x, v) :: l) := fun y u h => by
  by_cases e : y = x
  · subst e
    rw [List.lookup_cons_self] at h
    simpa using h
  · have hb : (y == x) = false := beq_eq_false_iff_ne.mpr e
    rw [List.lookup_cons, hb] at h
    simp only [e, if_false]
    exact H y u h
/-- the frame's names, the made objects, the rest of the state -/
structure St (g : Array GenState) (os : OsState) (h₀ : Heap) (L : Addr) (l : List (Str × Value)) (news : List (Addr × Obj)) (s : Shared) : Prop where
  fr : ∃ m, Fr h₀ L s.heap m ∧ Has m l
  nw : News h₀ L s.heap news
  gens : s.gens = g
  os : s.os = os
section
variable {g : Array GenState} {os : OsState} {h₀ : Heap} {L : Addr} {l l' : List (Str × Value)} {news news' : List (Addr × Obj)} {s : Shared}
theorem St.keep (S : St g os h₀ L l news s) : ∀ b o, h₀.get? b = some o → s.heap.get? b = some o := let ⟨_, F, _⟩ := S.fr; F.keep
theorem St.base {w : World} (S : St g os h₀ L l news s) (B : Base w h₀) : Base w s.heap := B.keeps S.keep
theorem St.above (S : St g os h₀ L l news s) : h₀.objs.size ≤ L := let ⟨_, F, _⟩ := S.fr; F.above
/-- fewer names known -/
theorem St.names (S : St g os h₀ L l news s) (h : ∀ x v, l'.lookup x = some v → l.lookup x = some v) : St g os h₀ L l' news s :=
  ⟨let ⟨m, F, H⟩ := S.fr; ⟨m, F, fun x v e => H x v (h x v e)⟩, S.nw, S.gens, S.os⟩
theorem St.drop (S : St g os h₀ L l news s) (h : ∀ p ∈ news', p ∈ news) : St g os h₀ L l news' s := ⟨S.fr, fun p hp => S.nw p (h p hp), S.gens, S.os⟩
theorem St.toks (S : St g os h₀ L l news s) (t : Nat) : St g os h₀ L l news { s with toks := t } := ⟨S.fr, S.nw, S.gens, S.os⟩
/-- the heap grows -/
theorem St.grow (S : St g os h₀ L l news s) {h' : Heap} (k : ∀ b o, s.heap.get? b = some o → h'.get? b = some o) (t : Nat) : St g os h₀ L l news { s with heap := h', toks := t } :=
  ⟨let ⟨m, F, H⟩ := S.fr; ⟨m, ⟨F.ns.keeps k, fun b o e => k b o (F.keep b o e), F.above⟩, H⟩, fun p hp => ⟨k _ _ (S.nw p hp).1, (S.nw p hp).2⟩, S.gens, S.os⟩
end
/-- names: the list l' is found in l, row by row -/
theorem names_of {l' l : List (Str × Value)} (h : ∀ p ∈ l', l.lookup p.1 = some p.2) : ∀ x v, l'.lookup x = some v → l.lookup x = some v := fun x v e => by
  induction l' with
  | nil => cases e
  | cons p r ih =>
    rw [List.lookup_cons] at e
    split at e
    · rename_i q
      cases e
      rw [eq_of_beq q]
      exact h p (.head _)
    · exact ih (fun q hq => h q (.tail _ hq)) e
end Mine
end
section
open PySem PySem.W PyProof.Rows PySem.Calls
set_option Elab.async false
set_option maxRecDepth 100000
set_option maxHeartbeats 1000000
namespace Mine
structure Grow (s s' : Shared) : Prop where
  keep : ∀ b o, s.heap.get? b = some o → s'.heap.get? b = some o
  gens : s'.gens = s.gens
  os : s'.os = s.os
theorem Grow.refl (s : Shared) : Grow s s := ⟨fun _ _ h => h, rfl, rfl⟩
theorem Grow.trans {a b c : Shared} (x : Grow a b) (y : Grow b c) : Grow a c := ⟨fun p o h => y.keep p o (x.keep p o h), y.gens.trans x.gens, y.os.trans x.os⟩
section
variable {g : Array GenState} {os : OsState} {h₀ : Heap} {L : Addr} {l l' : List (Str × Value)} {news news' : List (Addr × Obj)} {s s' : Shared}
theorem St.after (S : St g os h₀ L l news s) (G : Grow s s') : St g os h₀ L l news s' :=
  ⟨let ⟨m, F, H⟩ := S.fr; ⟨m, ⟨F.ns.keeps G.keep, fun b o e => G.keep b o (F.keep b o e), F.above⟩, H⟩, fun p hp => ⟨G.keep _ _ (S.nw p hp).1, (S.nw p hp).2⟩, G.gens.trans S.gens, G.os.trans S.os⟩
/-- out of a frame over the caller's own heap -/
theorem St.out {s₀ : Shared} (S : St s₀.gens s₀.os s₀.heap L l news s) : Grow s₀ s := ⟨S.keep, S.gens, S.os⟩
end
noncomputable def RetQ (Q : Value → Shared → Prop) : Flow → Shared → Prop
  | .ret v, s => Q v s
  | _, s => Q .none s
theorem RetQ.ret {Q : Value → Shared → Prop} {v : Value} {s : Shared} (h : Q v s) : RetQ Q (.ret v) s := h
theorem RetQ.next {Q : Value → Shared → Prop} {s : Shared} (h : Q .none s) : RetQ Q .next s := h
noncomputable def SeqQ (M : Model) (A : Around) (rest : List Stmt) (env : Env) (Q : Flow → Shared → Prop) (E : Value → Shared → Prop) : Flow → Shared → Prop
  | .next, s => wpAny M A (execs rest env) Q E s
  | f, s => Q f s
noncomputable def Br (b : Bool) (P R : Prop) : Prop := match b with
  | true => P
  | false => R
theorem Br.t {P R : Prop} (h : P) : Br true P R := h
theorem Br.f {P R : Prop} (h : R) : Br false P R := h
theorem Br.split {b : Bool} {P R : Prop} (h : b = true → P) (k : b = false → R) : Br b P R := by
  cases b with
  | true => exact h rfl
  | false => exact k rfl
theorem Br.pos {b : Bool} {P R : Prop} (e : b = true) (h : P) : Br b P R := by subst e; exact h
theorem Br.neg {b : Bool} {P R : Prop} (e : b = false) (h : R) : Br b P R := by subst e; exact h
section
variable {M : Model} {A : Around} {E : Value → Shared → Prop} {s : Shared} {env : Env}
theorem SeqQ.ret {rest : List Stmt} {Q : Flow → Shared → Prop} {v : Value} (h : Q (.ret v) s) : SeqQ M A rest env Q E (.ret v) s := h
theorem SeqQ.cont {rest : List Stmt} {Q : Flow → Shared → Prop} (h : Q .cont s) : SeqQ M A rest env Q E .cont s := h
theorem r_cons {st : Stmt} {rest : List Stmt} {Q : Flow → Shared → Prop} (h : wpAny M A (exec st env) (SeqQ M A rest env Q E) E s) : wpAny M A (execs (st :: rest) env) Q E s :=
  wpAny_execs_cons (wpAny_mono h (fun f s' h' => by cases f <;> exact h') fun _ _ e => e)
theorem r_nil {Q : Flow → Shared → Prop} (h : Q .next s) : wpAny M A (execs [] env) Q E s := wpAny_execs_nil h
theorem r_if {test body orelse pos} {Q : Flow → Shared → Prop} (h : wpAny M A (isTrue test env (eval test env)) (fun b s₂ => Br b (wpAny M A (execs body env) Q E s₂) (wpAny M A (execs orelse env) Q E s₂)) E s) :
    wpAny M A (exec (.If test body orelse pos) env) Q E s := wpAny_If (wpAny_mono h (fun b s' h' => by cases b <;> exact h') fun _ _ e => e)
theorem r_ifexp {test body orelse : Expr} {pos : Pos} {Q : Value → Shared → Prop} (h : wpAny M A (isTrue test env (eval test env)) (fun b s₂ => Br b (wpAny M A (eval body env) Q E s₂) (wpAny M A (eval orelse env) Q E s₂)) E s) :
    wpAny M A (eval (.IfExp test body orelse pos) env) Q E s := IfExp_ (wpAny_mono h (fun b s' h' => by cases b <;> exact h') fun _ _ e => e)
theorem r_and {x : Expr} {rest : List Expr} {pos : Pos} {whole : Sem Value} {Q : Bool → Shared → Prop} (h : wpAny M A (isTrue x env (eval x env)) (fun c s' => Br c (wpAny M A (isTrue (.BoolOp .And rest pos) env whole) Q E s') (Q false s')) E s) :
    wpAny M A (isTrue (.BoolOp .And (x :: rest) pos) env whole) Q E s := isTrue_and (wpAny_mono h (fun b s' h' => by cases b <;> exact h') fun _ _ e => e)
theorem r_or {x : Expr} {rest : List Expr} {pos : Pos} {whole : Sem Value} {Q : Bool → Shared → Prop} (h : wpAny M A (isTrue x env (eval x env)) (fun c s' => Br c (Q true s') (wpAny M A (isTrue (.BoolOp .Or rest pos) env whole) Q E s')) E s) :
    wpAny M A (isTrue (.BoolOp .Or (x :: rest) pos) env whole) Q E s := isTrue_or (wpAny_mono h (fun b s' h' => by cases b <;> exact h') fun _ _ e => e)
theorem r_vor {e₁ e₂ : Expr} {rest : List Expr} {pos : Pos} {Q : Value → Shared → Prop} (h : wpAny M A (eval e₁ env) (fun v s₁ => wpAny M A (truthy v) (fun c s₂ => Br c (Q v s₂) (wpAny M A (eval (.BoolOp .Or (e₂ :: rest) pos) env) Q E s₂)) E s₁) E s) :
    wpAny M A (eval (.BoolOp .Or (e₁ :: e₂ :: rest) pos) env) Q E s := BoolOp_or (wpAny_mono h (fun v s' h' => wpAny_mono h' (fun b s'' h'' => by cases b <;> exact h'') fun _ _ e => e) fun _ _ e => e)
theorem r_vand {e₁ e₂ : Expr} {rest : List Expr} {pos : Pos} {Q : Value → Shared → Prop} (h : wpAny M A (eval e₁ env) (fun v s₁ => wpAny M A (truthy v) (fun c s₂ => Br c (wpAny M A (eval (.BoolOp .And (e₂ :: rest) pos) env) Q E s₂) (Q v s₂)) E s₁) E s) :
    wpAny M A (eval (.BoolOp .And (e₁ :: e₂ :: rest) pos) env) Q E s := BoolOp_and (wpAny_mono h (fun v s' h' => wpAny_mono h' (fun b s'' h'' => by cases b <;> exact h'') fun _ _ e => e) fun _ _ e => e)
end
section
variable {prog : Program} {w : World} {A : Around} {E : Value → Shared → Prop} {s : Shared} {g : Array GenState} {os : OsState} {h₀ : Heap} {L a : Addr} {l : List (Str × Value)} {news : List (Addr × Obj)} {name : Str} {scope : Scope} {cd : Value}
/-- a name of the frame -/
theorem r_name {x : Str} {pos : Pos} {v : Value} {Q : Value → Shared → Prop} (S : St g os h₀ L l news s) (hv : l.lookup x = some v) (h : Q v s)
    (hk : scope.kind = .function := by rfl) (hl : (envOf name scope L a cd).kindOf x = some .local := by rfl) (hd : (x == ("__debug__" : Str)) = false := by decide) :
    wpAny (model prog w) A (eval (.Name x pos) (envOf name scope L a cd)) Q E s := let ⟨_, F, H⟩ := S.fr; ld F (H x v hv) h hk hl hd
theorem r_load {x : Str} {v : Value} {Q : Value → Shared → Prop} (S : St g os h₀ L l news s) (hv : l.lookup x = some v) (h : Q v s)
    (hk : scope.kind = .function := by rfl) (hl : (envOf name scope L a cd).kindOf x = some .local := by rfl) :
    wpAny (model prog w) A (loadName (envOf name scope L a cd) x) Q E s := let ⟨_, F, H⟩ := S.fr; wpAny_loadName_local hk hl F.ns (H x v hv) h
theorem r_store {x : Str} {v : Value} {Q : Unit → Shared → Prop} (S : St g os h₀ L l news s) (h : ∀ s', St g os h₀ L ((x, v) :: l) news s' → Q () s')
    (hk : scope.kind = .function := by rfl) (hl : (envOf name scope L a cd).kindOf x = some .local := by rfl) :
    wpAny (model prog w) A (storeName (envOf name scope L a cd) x v) Q E s :=
  let ⟨_, F, H⟩ := S.fr; stN F S.nw (fun h' F' N' => h _ ⟨⟨_, F', H.put x v⟩, N', S.gens, S.os⟩) hk hl
/-- a name of the top -/
theorem r_global {x : Str} {pos : Pos} {v : Value} {Q : Value → Shared → Prop} (S : St g os h₀ L l news s) (B : Base w h₀) (e : nsIn (KK w) mainGlobals x = some (some v)) (h : Q v s)
    (hk : scope.kind = .function := by rfl) (hl : (envOf name scope L a cd).kindOf x = some .globalImplicit := by rfl) (hd : (x == ("__debug__" : Str)) = false := by decide) :
    wpAny (model prog w) A (eval (.Name x pos) (envOf name scope L a cd)) Q E s :=
  let ⟨_, F, _⟩ := S.fr; let ⟨_, _, _, _, T⟩ := B.top; name_K F B.k T e h hk hl hd
theorem r_builtin {x : Str} {pos : Pos} {v : Value} {Q : Value → Shared → Prop} (S : St g os h₀ L l news s) (B : Base w h₀) (e : nsIn (KK w) mainGlobals x = some none) (hv : bootBuiltins x = some v) (hn : x ≠ "__name__") (h : Q v s)
    (hk : scope.kind = .function := by rfl) (hl : (envOf name scope L a cd).kindOf x = some .globalImplicit := by rfl) (hd : (x == ("__debug__" : Str)) = false := by decide) :
    wpAny (model prog w) A (eval (.Name x pos) (envOf name scope L a cd)) Q E s :=
  let ⟨_, F, _⟩ := S.fr; let ⟨_, _, _, _, T⟩ := B.top; name_B F B.k T e hv hn h hk hl hd
/-- a def of the top, called -/
theorem r_call {f : Addr} {args : List Value} {binds : List (Str × Value)} {fname qual : Str} {params : Arguments} {body : List Stmt} {fscope : Scope} {dV kV doc pm cdv ct oc : Value} {an od : Option Addr} {osl : Array (Option Value)} {hb : Heap} {Q : Value → Shared → Prop}
    (ho : (KK w).lookup f = some ⟨oc, od, .func (fnOf fname qual params body fscope dV kV doc pm an cdv ct), osl⟩) (hcd : codeIn (KK w) cdv qual = true)
    (hbind : bindArgs (fnOf fname qual params body fscope dV kV doc pm an cdv ct) ⟨args, []⟩ = pure binds) (hloc : (binds.all fun x => decide (fscope.names.lookup x.1 = some .local)) = true)
    (B : Base w hb) (hle : ∀ b o, hb.get? b = some o → s.heap.get? b = some o) (hsz : hb.objs.size ≤ s.heap.objs.size) (hn : ∀ p ∈ news, s.heap.get? p.1 = some p.2 ∧ hb.get? p.1 = none)
    (hroom : A.depth < recursionLimit)
    (h : ∀ L s₁, (∀ p ∈ news, p.1 < L) → St s.gens s.os hb L binds.reverse news s₁ → wpAny (model prog w) (A.deeper (envOf qual fscope L f cdv)) (execs body (envOf qual fscope L f cdv)) (RetQ Q) (fun _ _ => False) s₁)
    (hcell : ∀ x ∈ fscope.names, x.2 ≠ .cell := by decide) (hco : fscope.isCoroutine = false := by rfl) (hgen : fscope.isGenerator = false := by rfl) (hk : fscope.kind = .function := by rfl) :
    wpAny (model prog w) A (call (.ref f) args) Q E s := by
  have X := B.k.keeps hle
  refine wpAny_call (codeAny_call_def (fd := fnOf fname qual params body fscope dV kV doc pm an cdv ct) (body := body) (binds := binds) hroom (X _ _ ho) rfl (B.nolimit.keeps hle) (codeRec_of X hcd) rfl (BindsTo.of_eq hbind) hcell (locs hloc) (fun h₁ hns hk₁ => ?_) hco hgen hk)
  refine wpAny_mono (h s.heap.objs.size _ (fun p hp => Heap.lt_size (hn p hp).1) ⟨⟨_, ⟨hns, fun b o e => hk₁ b o (hle b o e), hsz⟩, fun x v e => e⟩, fun p hp => ⟨hk₁ _ _ (hn p hp).1, Nat.ne_of_lt (Heap.lt_size (hn p hp).1), (hn p hp).2⟩, rfl, rfl⟩) (fun fl s' hf => ?_) fun _ _ e => e.elim
  cases fl <;> exact hf
/-- .. that keeps all -/
theorem r_callP {f : Addr} {args : List Value} {binds : List (Str × Value)} {fname qual : Str} {params : Arguments} {body : List Stmt} {fscope : Scope} {dV kV doc pm cdv ct oc : Value} {an od : Option Addr} {osl : Array (Option Value)} {Q : Value → Shared → Prop}
    (ho : (KK w).lookup f = some ⟨oc, od, .func (fnOf fname qual params body fscope dV kV doc pm an cdv ct), osl⟩) (hcd : codeIn (KK w) cdv qual = true)
    (hbind : bindArgs (fnOf fname qual params body fscope dV kV doc pm an cdv ct) ⟨args, []⟩ = pure binds) (hloc : (binds.all fun x => decide (fscope.names.lookup x.1 = some .local)) = true)
    (B : Base w s.heap) (hroom : A.depth < recursionLimit)
    (h : ∀ L s₁, St s.gens s.os s.heap L binds.reverse [] s₁ → wpAny (model prog w) (A.deeper (envOf qual fscope L f cdv)) (execs body (envOf qual fscope L f cdv)) (RetQ Q) (fun _ _ => False) s₁)
    (hcell : ∀ x ∈ fscope.names, x.2 ≠ .cell := by decide) (hco : fscope.isCoroutine = false := by rfl) (hgen : fscope.isGenerator = false := by rfl) (hk : fscope.kind = .function := by rfl) :
    wpAny (model prog w) A (call (.ref f) args) Q E s :=
  r_call (hb := s.heap) (news := []) ho hcd hbind hloc B (fun _ _ e => e) (Nat.le_refl _) (fun _ hp => nomatch hp) hroom (fun L s₁ _ S => h L s₁ S) hcell hco hgen hk
end
section
variable {prog : Program} {w : World} {A : Around} {E : Value → Shared → Prop} {s : Shared} {g : Array GenState} {os : OsState} {h₀ : Heap} {L a : Addr} {l : List (Str × Value)} {news : List (Addr × Obj)} {env : Env}
/-- constants -/
theorem r_int {i : Int} {k : Nat} {pos : Pos} {Q : Value → Shared → Prop} (S : St g os h₀ L l news s) (h : ∀ t s', St g os h₀ L l news s' → Q (.int i t) s') : wpAny (model prog w) A (eval (.Constant (.int i) k pos) env) Q E s :=
  wpAny_Constant_int (h _ _ (S.toks _))
end
end Mine
end
section
open PySem PySem.W PyProof.Rows PySem.Calls
set_option Elab.async false
set_option maxRecDepth 100000
set_option maxHeartbeats 1000000
set_option linter.unusedVariables false
namespace Mine
section
variable {prog : Program} {w : World} {A : Around} {E : Value → Shared → Prop} {s : Shared} {g : Array GenState} {os : OsState} {h₀ : Heap} {L a : Addr} {l : List (Str × Value)} {news : List (Addr × Obj)} {env : Env}
theorem r_str {x : Str} {k : Nat} {pos : Pos} {Q : Value → Shared → Prop} (S : St g os h₀ L l news s) (h : ∀ t s', St g os h₀ L l news s' → Q (.str x t) s') : wpAny (model prog w) A (eval (.Constant (.str x) k pos) env) Q E s :=
  Calls.Constant_str (h _ _ (S.toks _))
theorem r_add {a b : Int} {t u : Tok} {Q : Value → Shared → Prop} (S : St g os h₀ L l news s) (h : ∀ t s', St g os h₀ L l news s' → Q (.int (a + b) t) s') : wpAny (model prog w) A (binaryOp .Add (.int a t) (.int b u)) Q E s := add_int (h _ _ (S.toks _))
theorem r_sub {a b : Int} {t u : Tok} {Q : Value → Shared → Prop} (S : St g os h₀ L l news s) (h : ∀ t s', St g os h₀ L l news s' → Q (.int (a - b) t) s') : wpAny (model prog w) A (binaryOp .Sub (.int a t) (.int b u)) Q E s := sub_int (h _ _ (S.toks _))
theorem r_mul {a b : Int} {t u : Tok} {Q : Value → Shared → Prop} (S : St g os h₀ L l news s) (hb : IntMulOk a b) (h : ∀ t s', St g os h₀ L l news s' → Q (.int (a * b) t) s') : wpAny (model prog w) A (binaryOp .Mult (.int a t) (.int b u)) Q E s := mul_int (h _ _ (S.toks _)) hb
theorem r_iadd {a b : Int} {t u : Tok} {Q : Value → Shared → Prop} (S : St g os h₀ L l news s) (h : ∀ t s', St g os h₀ L l news s' → Q (.int (a + b) t) s') : wpAny (model prog w) A (inplaceOp .Add (.int a t) (.int b u)) Q E s := iadd_int (h _ _ (S.toks _))
theorem r_isub {a b : Int} {t u : Tok} {Q : Value → Shared → Prop} (S : St g os h₀ L l news s) (h : ∀ t s', St g os h₀ L l news s' → Q (.int (a - b) t) s') : wpAny (model prog w) A (inplaceOp .Sub (.int a t) (.int b u)) Q E s := isub_int (h _ _ (S.toks _))
theorem r_adds {x y : Str} {t u : Tok} {Q : Value → Shared → Prop} (S : St g os h₀ L l news s) (hz : x.length + y.length ≤ sizeLine) (h : ∀ t s', St g os h₀ L l news s' → Q (.str (x ++ y) t) s') : wpAny (model prog w) A (binaryOp .Add (.str x t) (.str y u)) Q E s := add_str (fun _ _ => h _ _ (S.toks _)) hz
theorem r_tstr {x : Str} {t : Tok} {Q : Bool → Shared → Prop} (S : St g os h₀ L l news s) (hz : x.length ≤ 1000000) (h : ∀ s', St g os h₀ L l news s' → Q (x.length != 0) s') : wpAny (model prog w) A (truthy (.str x t)) Q E s := by
  refine SBL.truthy (by omega) ?_
  have := h _ (S.toks (s.toks + 1 + 1))
  have e : ((x.length : Int) != 0) = (x.length != 0) := by
    cases hb : x.length != 0 <;> simp_all
  rw [e]
  exact this
theorem r_lower {x : Str} {t : Tok} {Q : Value → Shared → Prop} (S : St g os h₀ L l news s) (hz : x.length ≤ 1000000) (h : ∀ t s', St g os h₀ L l news s' → Q (.str (Txt.lower x) t) s') : wpAny (model prog w) A (call (.builtin "str.lower") [.str x t]) Q E s :=
  SCL.lower (by omega) fun _ => h _ _ (S.toks _)
theorem r_lenS {x : Str} {t : Tok} {Q : Value → Shared → Prop} (S : St g os h₀ L l news s) (hz : x.length ≤ 1000000) (h : ∀ t s', St g os h₀ L l news s' → Q (.int x.length t) s') : wpAny (model prog w) A (call (.builtin "len") [.str x t]) Q E s :=
  len_str (by omega) (h _ _ (S.toks _))
theorem r_itemS {value slice : Expr} {x : Str} {t u : Tok} {i : Int} {Q : Value → Shared → Prop} (S : St g os h₀ L l news s) (hz : x.length ≤ 1000000) (h1 : -(x.length : Int) ≤ i) (h2 : i < x.length)
    (h : ∀ t s', St g os h₀ L l news s' → Q (.str (Txt.item x i) t) s')
    (hs : subscripted slice false (.str x t) (.int i u) = operate [.str x t, .int i u] (getItem (.str x t) (.int i u)) := by with_unfolding_all rfl) (ht : ∀ r, letTemporaryGo value (.str x t) r = pure () := by intro _; with_unfolding_all rfl) :
    wpAny (model prog w) A (subscriptTail value slice (.str x t) (.int i u)) Q E s :=
  item_str (fitsSsize_of (N := 9223372036854775808) (by (clear h2 hs; omega)) (by (clear h1 hs; omega)) (Int.le_refl _)) h1 h2 (fun _ => h _ _ (S.toks _)) hs ht
theorem sl_le {n : Nat} (h : n ≤ 1000000) : n ≤ sizeLine := by rw [sizeLine_eq]; omega
/-- slices of a text: the slice object lies newest in the heap -/
theorem r_slice {lower upper step : Option Expr} {p : Pos} {Q : Value → Shared → Prop}
    (h : wpAny (model prog w) A (evalPart lower env) (fun l s₁ => wpAny (model prog w) A (evalPart upper env) (fun u s₂ => wpAny (model prog w) A (evalPart step env) (fun st s₃ =>
      Q (.ref s₃.heap.objs.size) { s₃ with heap := s₃.heap.push { cls := .type "slice", data := .fields #[l, u, st] } }) E s₂) E s₁) E s) :
    wpAny (model prog w) A (eval (.Slice lower upper step p) env) Q E s := wpAny_Slice h
theorem r_part0 {Q : Value → Shared → Prop} (h : Q .none s) : wpAny (model prog w) A (evalPart none env) Q E s := evalPart_none_step h
theorem r_part1 {e : Expr} {Q : Value → Shared → Prop} (h : wpAny (model prog w) A (eval e env) Q E s) : wpAny (model prog w) A (evalPart (some e) env) Q E s := evalPart_some_step h
section
variable {value slice : Expr} {x : Str} {t : Tok} {Q : Value → Shared → Prop}
theorem r_sliceS_nn (S : St g os h₀ L l news s) (hz : x.length ≤ 1000000) (h : ∀ t s', St g os h₀ L l news s' → Q (.str (Txt.slice x none none) t) s')
    (hs : subscripted slice false (.str x t) (.ref s.heap.objs.size) = operate [.ref s.heap.objs.size, .str x t] (getItem (.str x t) (.ref s.heap.objs.size)) := by with_unfolding_all rfl)
    (ht : ∀ r, letTemporaryGo value (.str x t) r = pure () := by intro _; with_unfolding_all rfl) :
    wpAny (model prog w) A (subscriptTail value slice (.str x t) (.ref s.heap.objs.size)) Q E { s with heap := s.heap.push { cls := .type "slice", data := .fields #[.none, .none, .none] } } :=
  let ⟨_, F, H⟩ := S.fr; slice_strN_nn F S.nw (fun _ _ _ F' N' => h _ _ ⟨⟨_, F', H⟩, N', S.gens, S.os⟩) hs ht (sl_le hz)
theorem r_sliceS_ns {j : Int} {uj : Tok} (S : St g os h₀ L l news s) (hz : x.length ≤ 1000000) (h : ∀ t s', St g os h₀ L l news s' → Q (.str (Txt.slice x none (some j)) t) s')
    (hs : subscripted slice false (.str x t) (.ref s.heap.objs.size) = operate [.ref s.heap.objs.size, .str x t] (getItem (.str x t) (.ref s.heap.objs.size)) := by with_unfolding_all rfl)
    (ht : ∀ r, letTemporaryGo value (.str x t) r = pure () := by intro _; with_unfolding_all rfl) :
    wpAny (model prog w) A (subscriptTail value slice (.str x t) (.ref s.heap.objs.size)) Q E { s with heap := s.heap.push { cls := .type "slice", data := .fields #[.none, .int j uj, .none] } } :=
  let ⟨_, F, H⟩ := S.fr; slice_strN_ns F S.nw (fun _ _ _ F' N' => h _ _ ⟨⟨_, F', H⟩, N', S.gens, S.os⟩) hs ht (sl_le hz)
theorem r_sliceS_sn {i : Int} {ui : Tok} (S : St g os h₀ L l news s) (hz : x.length ≤ 1000000) (h : ∀ t s', St g os h₀ L l news s' → Q (.str (Txt.slice x (some i) none) t) s')
    (hs : subscripted slice false (.str x t) (.ref s.heap.objs.size) = operate [.ref s.heap.objs.size, .str x t] (getItem (.str x t) (.ref s.heap.objs.size)) := by with_unfolding_all rfl)
    (ht : ∀ r, letTemporaryGo value (.str x t) r = pure () := by intro _; with_unfolding_all rfl) :
    wpAny (model prog w) A (subscriptTail value slice (.str x t) (.ref s.heap.objs.size)) Q E { s with heap := s.heap.push { cls := .type "slice", data := .fields #[.int i ui, .none, .none] } } :=
  let ⟨_, F, H⟩ := S.fr; slice_strN_sn F S.nw (fun _ _ _ F' N' => h _ _ ⟨⟨_, F', H⟩, N', S.gens, S.os⟩) hs ht (sl_le hz)
theorem r_sliceS_ss {i j : Int} {ui uj : Tok} (S : St g os h₀ L l news s) (hz : x.length ≤ 1000000) (h : ∀ t s', St g os h₀ L l news s' → Q (.str (Txt.slice x (some i) (some j)) t) s')
    (hs : subscripted slice false (.str x t) (.ref s.heap.objs.size) = operate [.ref s.heap.objs.size, .str x t] (getItem (.str x t) (.ref s.heap.objs.size)) := by with_unfolding_all rfl)
    (ht : ∀ r, letTemporaryGo value (.str x t) r = pure () := by intro _; with_unfolding_all rfl) :
    wpAny (model prog w) A (subscriptTail value slice (.str x t) (.ref s.heap.objs.size)) Q E { s with heap := s.heap.push { cls := .type "slice", data := .fields #[.int i ui, .int j uj, .none] } } :=
  let ⟨_, F, H⟩ := S.fr; slice_strN_ss F S.nw (fun _ _ _ F' N' => h _ _ ⟨⟨_, F', H⟩, N', S.gens, S.os⟩) hs ht (sl_le hz)
end
theorem r_callK {pos : Pos} {f : Addr} {e : Expr} {rest : List Expr} {Q : Value → Shared → Prop} (S : St g os h₀ L l news s) (B : Base w h₀) (hf : keepIn (KK w) (.ref f) = true)
    (h : wpAny (model prog w) A (spliced (backTo pos (starEach (e :: rest) env))) (fun vs s₁ => (KK w).In s₁.heap ∧ wpAny (model prog w) A (call (.ref f) vs) Q E s₁) E s)
    (h1 : starEach (e :: rest) env = (false, eval e env) :: starEach rest env := by rfl) (h2 : ((backTo pos (starEach rest env)).any fun x => x.fst) = false := by rfl) :
    wpAny (model prog w) A (callWith pos (.ref f) [] (backTo pos (starEach (e :: rest) env)) []) Q E s := callWith_K B.k hf h h1 h2
theorem k_and {w : World} {P : Prop} (S : St g os h₀ L l news s) (B : Base w h₀) (h : P) : (KK w).In s.heap ∧ P := ⟨(S.base B).k, h⟩
theorem r_min {a b : Int} {t u : Tok} {Q : Value → Shared → Prop} (hh : A.handled = none) (S : St g os h₀ L l news s) (h : ∀ t s', St g os h₀ L l news s' → Q (.int (if b < a then b else a) t) s') :
    wpAny (model prog w) A (call (.builtin "min") [.int a t, .int b u]) Q E s :=
  let ⟨_, F, H⟩ := S.fr; min_two_N hh F S.nw fun _ _ F' N' => h _ _ ⟨⟨_, F', H⟩, N', S.gens, S.os⟩
end
end Mine
end
section
open PySem PySem.W PyProof.Rows PySem.Calls
set_option Elab.async false
set_option maxRecDepth 100000
set_option maxHeartbeats 1000000
set_option linter.unusedVariables false
namespace Mine
theorem gvMAXSTRINGSIZE (w : World) : nsIn (KK w) mainGlobals "_MAX_STRING_SIZE" = some (some (.int 40 189)) := rfl
theorem gvMOVECOST (w : World) : nsIn (KK w) mainGlobals "_MOVE_COST" = some (some (.int 2 191)) := rfl
theorem gvCASECOST (w : World) : nsIn (KK w) mainGlobals "_CASE_COST" = some (some (.int 1 193)) := rfl
theorem gvsubstitutioncost (w : World) : nsIn (KK w) mainGlobals "_substitution_cost" = some (some (.ref 21)) := rfl
theorem gvlevenshteindistance (w : World) : nsIn (KK w) mainGlobals "_levenshtein_distance" = some (some (.ref 28)) := rfl
theorem gviterescapedchars (w : World) : nsIn (KK w) mainGlobals "_iter_escaped_chars" = some (some (.ref 35)) := rfl
theorem gvstripquotedrealnames (w : World) : nsIn (KK w) mainGlobals "_strip_quoted_realnames" = some (some (.ref 42)) := rfl
theorem gvnetrclex (w : World) : nsIn (KK w) mainGlobals "_netrclex" = some (some (.ref 80)) := rfl
theorem gvlawlexer (w : World) : nsIn (KK w) mainGlobals "_law_lexer" = some (some (.ref 91)) := rfl
theorem gvlawspelled (w : World) : nsIn (KK w) mainGlobals "_law_spelled" = some (some (.ref 96)) := rfl
theorem gvlawways (w : World) : nsIn (KK w) mainGlobals "_law_ways" = some (some (.ref 101)) := rfl
theorem gvlawbelow (w : World) : nsIn (KK w) mainGlobals "_law_below" = some (some (.ref 108)) := rfl
/-- nothing raises -/
noncomputable abbrev NoE : Value → Shared → Prop := fun _ _ => False
section
variable {prog : Program} {w : World} {A : Around} {s : Shared} {env : Env}
theorem SeqQ.go {M : Model} {E : Value → Shared → Prop} {rest : List Stmt} {Q : Flow → Shared → Prop} (h : wpAny M A (execs rest env) Q E s) : SeqQ M A rest env Q E .next s := h
/-- the end of a loop's turn -/
noncomputable def TurnQ (I : Nat → Shared → Prop) (n : Nat) (Q : Flow → Shared → Prop) : Flow → Shared → Prop
  | .next, s => ∃ m, m < n ∧ I m s
  | .cont, s => ∃ m, m < n ∧ I m s
  | .brk, s => Q .next s
  | .ret v, s => Q (.ret v) s
theorem r_while {test : Expr} {body : List Stmt} {pos : Pos} {Q : Flow → Shared → Prop} (I : Nat → Shared → Prop)
    (turn : ∀ n s, I n s → wpAny (model prog w) A (isTrue test env (eval test env)) (fun b s₂ => Br b (wpAny (model prog w) A (execs body env) (TurnQ I n Q) NoE s₂) (Q .next s₂)) NoE s)
    (n : Nat) (h : I n s) : wpAny (model prog w) A (exec (.While test body [] pos) env) Q NoE s := by
  refine wpAny_While (codeAny_whileLoop I (fun n s hI => ?_) n h)
  refine wpAny_mono (turn n s hI) (fun b s₂ h₂ => ?_) fun _ _ e => e.elim
  cases b with
  | true =>
    rw [if_pos rfl]
    exact wpAny_mono h₂ (fun f s₃ h₃ => by cases f <;> exact h₃) fun _ _ e => e.elim
  | false =>
    rw [if_neg Bool.false_ne_true]
    exact wpAny_execs_nil h₂
/-- .. with a word for the end -/
theorem r_whileX {test : Expr} {body : List Stmt} {pos : Pos} {Q : Flow → Shared → Prop} (I : Nat → Shared → Prop) (X : Shared → Prop)
    (turn : ∀ n (T' : Flow → Shared → Prop) (X' : Shared → Prop), (∀ f s, TurnQ I n Q f s → T' f s) → (∀ s, X s → X' s) → ∀ s, I n s → wpAny (model prog w) A (isTrue test env (eval test env)) (fun b s₂ => Br b (wpAny (model prog w) A (execs body env) T' NoE s₂) (X' s₂)) NoE s)
    (n : Nat) (h : I n s) (exit : ∀ s, X s → Q .next s) : wpAny (model prog w) A (exec (.While test body [] pos) env) Q NoE s :=
  r_while I (fun n s hI => wpAny_mono (turn n _ _ (fun _ _ h => h) (fun _ h => h) s hI) (fun b s₂ h₂ => by cases b with | true => exact h₂ | false => exact exit _ h₂) fun _ _ e => e) n h
/-- what is wanted of the iterator -/
noncomputable def ForQ (prog : Program) (w : World) (A : Around) (target : Expr) (body : List Stmt) (env : Env) (Q : Flow → Shared → Prop) (it : Value) (s₂ : Shared) : Prop :=
  ∃ (I : Nat → Shared → Prop) (n : Nat), I n s₂ ∧ ∀ n s, I n s → wpAny (model prog w) A (pyNext it) (fun r s₁ => match r with
      | none => Q .next s₁
      | some v => wpAny (model prog w) A (letOwnedTupleGo target it v) (fun _ s₁' => wpAny (model prog w) A (assign target env v) (fun _ s₂ =>
          wpAny (model prog w) A (execs body env) (TurnQ I n Q) NoE s₂) NoE s₁') NoE s₁) NoE s
/-- the way to ForQ -/
theorem ForQ.of {target : Expr} {body : List Stmt} {Q : Flow → Shared → Prop} {it : Value} {s₂ : Shared} (I : Nat → Shared → Prop) (X : Shared → Prop) (n : Nat) (h : I n s₂)
    (turn : ∀ n (T' : Flow → Shared → Prop) (X' : Shared → Prop), (∀ f s, TurnQ I n Q f s → T' f s) → (∀ s, X s → X' s) → ∀ s, I n s → wpAny (model prog w) A (pyNext it) (fun r s₁ => match r with
      | none => X' s₁
      | some v => wpAny (model prog w) A (letOwnedTupleGo target it v) (fun _ s₁' => wpAny (model prog w) A (assign target env v) (fun _ s₂ =>
          wpAny (model prog w) A (execs body env) T' NoE s₂) NoE s₁') NoE s₁) NoE s) (exit : ∀ s, X s → Q .next s) : ForQ prog w A target body env Q it s₂ :=
  ⟨I, n, h, fun n s hI => wpAny_mono (turn n _ _ (fun _ _ h => h) (fun _ h => h) s hI) (fun r s₁ h₁ => by cases r with | none => exact exit _ h₁ | some v => exact h₁) fun _ _ e => e⟩
theorem r_for {target iter : Expr} {body : List Stmt} {pos : Pos} {Q : Flow → Shared → Prop}
    (h : wpAny (model prog w) A (eval iter env) (fun x s₁ => wpAny (model prog w) A (pyIter x) (ForQ prog w A target body env Q) NoE s₁) NoE s)
    (hs : ∀ x, foldedSetIterable iter env x = pure x := by intro _; rfl) :
    wpAny (model prog w) A (exec (.For target iter body [] pos) env) Q NoE s := by
  refine wpAny_For (wpAny_mono h (fun x s₁ h₁ => wpAny_mono h₁ (fun it s₂ h₂ => ?_) fun _ _ e => e) fun _ _ e => e) hs
  obtain ⟨I, n, hI, turn⟩ := h₂
  refine codeAny_forLoop_any I (fun n s hI => ?_) n hI
  refine wpAny_mono (turn n s hI) (fun r s₁ h₁ => ?_) fun _ _ e => e.elim
  cases r with
  | none => exact wpAny_execs_nil h₁
  | some v =>
    refine wpAny_mono h₁ (fun _ s₁' h₁' => wpAny_mono h₁' (fun _ s₂ h₂ => wpAny_mono h₂ (fun f s₃ h₃ => by cases f <;> exact h₃) fun _ _ e => e.elim) fun _ _ e => e.elim) fun _ _ e => e.elim
end
section
variable {prog : Program} {w : World} {A : Around} {E : Value → Shared → Prop} {s : Shared} {g : Array GenState} {os : OsState} {h₀ : Heap} {L a : Addr} {l : List (Str × Value)} {news news' : List (Addr × Obj)} {env : Env}
/-- a made object is changed -/
theorem St.change (S : St g os h₀ L l news s) {d : Addr} {o o' : Obj} {h' : Heap} (U : Upd d o o' news news') (hs : Heap.SameBut d s.heap h') (ho : h'.get? d = some o') (t : Nat) :
    St g os h₀ L l news' { s with heap := h', toks := t } := by
  obtain ⟨pre, post, rfl, rfl, x, y⟩ := U.split
  have z := S.nw (d, o) (List.mem_append.mpr (.inr (.head _)))
  obtain ⟨m, F, H⟩ := S.fr
  exact ⟨⟨m, F.change hs z.2.1 z.2.2, H⟩, news_set S.nw x y hs ho, S.gens, S.os⟩
theorem St.lost (S : St g os h₀ L l news s) {d : Addr} {h' : Heap} (hd : ∀ p ∈ news, p.1 ≠ d) (hL : d ≠ L) (h0 : h₀.get? d = none) (hs : Heap.ExtBut d s.heap h') (t : Nat) : St g os h₀ L l news { s with heap := h', toks := t } := by
  obtain ⟨m, F, H⟩ := S.fr
  refine ⟨⟨m, ⟨F.ns.extBut hs (Ne.symm hL), fun b o e => hs b o ?_ (F.keep b o e), F.above⟩, H⟩, fun p hp => ⟨hs _ _ (hd p hp) (S.nw p hp).1, (S.nw p hp).2⟩, S.gens, S.os⟩
  rintro rfl
  rw [h0] at e
  cases e
/-- .. the object at the head is lost, the rest stays -/
theorem St.lose (S : St g os h₀ L l ((a, o) :: news) s) {h' : Heap} (hd : ∀ p ∈ news, p.1 ≠ a) (hs : Heap.ExtBut a s.heap h') (t : Nat) : St g os h₀ L l news { s with heap := h', toks := t } :=
  (S.drop fun p hp => .tail _ hp).lost hd (S.nw _ (.head _)).2.1 (S.nw _ (.head _)).2.2 hs t
theorem St.push (S : St g os h₀ L l news s) (o : Obj) (t : Nat) (hf : o.isFreed = false := by rfl) : St g os h₀ L l ((s.heap.objs.size, o) :: news) { s with heap := s.heap.push o, toks := t } :=
  let ⟨m, F, H⟩ := S.fr; ⟨⟨m, F.push _, H⟩, S.nw.push F o hf, S.gens, S.os⟩
theorem St.lt (S : St g os h₀ L l news s) {p : Addr × Obj} (hp : p ∈ news) : p.1 < s.heap.objs.size := Heap.lt_size (S.nw p hp).1
theorem St.Llt (S : St g os h₀ L l news s) : L < s.heap.objs.size := let ⟨_, F, _⟩ := S.fr; F.ns.lt
noncomputable abbrev rangeObj (a b c : Int) (t u v : Tok) : Obj := { cls := .type "range", dict := none, data := .fields #[.int a t, .int b u, .int c v], slots := #[] }
noncomputable abbrev rangeIt (x left step : Int) : Obj := { cls := .type "range_iterator", dict := none, data := .fields #[rawInt x, rawInt left, rawInt step], slots := #[] }
theorem r_range1 {n : Int} {t : Tok} {Q : Value → Shared → Prop} (S : St g os h₀ L l news s)
    (h : ∀ r t₁ u₁ v₁ s', (∀ p ∈ news, p.1 < r) → St g os h₀ L l ((r, rangeObj 0 n 1 t₁ u₁ v₁) :: news) s' → Q (.ref r) s') :
    wpAny (model prog w) A (call (.type "range") [.int n t]) Q E s :=
  let ⟨_, F, H⟩ := S.fr; range1_rows F S.nw fun h' tk t₁ u₁ v₁ r F' N' hk => h _ t₁ u₁ v₁ _ (fun p hp => S.lt hp) ⟨⟨_, F', H⟩, fun p hp => by
    rcases List.mem_cons.mp hp with rfl | hp
    · refine ⟨r, ?_, ?_⟩
      · exact Nat.ne_of_gt S.Llt
      · cases q : h₀.get? s.heap.objs.size with
        | none => rfl
        | some o => exact absurd (Heap.lt_size (S.keep _ _ q)) (Nat.lt_irrefl _)
    · exact N' p hp, S.gens, S.os⟩
theorem r_range3 {x y z : Int} {t u v : Tok} {Q : Value → Shared → Prop} (S : St g os h₀ L l news s) (hz : z ≠ 0) (hp : Builtin.divisionGoesByPylong (y - x) z = false)
    (h : ∀ r t₁ u₁ v₁ s', (∀ p ∈ news, p.1 < r) → St g os h₀ L l ((r, rangeObj x y z t₁ u₁ v₁) :: news) s' → Q (.ref r) s') :
    wpAny (model prog w) A (call (.type "range") [.int x t, .int y u, .int z v]) Q E s :=
  let ⟨_, F, H⟩ := S.fr; range3_rows F S.nw hz (fun h' tk t₁ u₁ v₁ r F' N' hk => h _ t₁ u₁ v₁ _ (fun p hp => S.lt hp) ⟨⟨_, F', H⟩, fun p hp => by
    rcases List.mem_cons.mp hp with rfl | hp
    · refine ⟨r, ?_, ?_⟩
      · exact Nat.ne_of_gt S.Llt
      · cases q : h₀.get? s.heap.objs.size with
        | none => rfl
        | some o => exact absurd (Heap.lt_size (S.keep _ _ q)) (Nat.lt_irrefl _)
    · exact N' p hp, S.gens, S.os⟩) (.inl hp)
theorem r_iterRange {r : Addr} {x y z : Int} {t u v : Tok} {Q : Value → Shared → Prop} (S : St g os h₀ L l news s) (hm : (r, rangeObj x y z t u v) ∈ news) (hsm : Builtin.Range.small x y z = true)
    (h : ∀ i s', (∀ p ∈ news, p.1 < i) → St g os h₀ L l ((i, rangeIt x (Builtin.Range.rangeSize x y z) z) :: news) s' → Q (.ref i) s') : wpAny (model prog w) A (pyIter (.ref r)) Q E s :=
  wpAny_pyIter_range (S.nw _ hm).1 hsm (h _ _ (fun p hp => S.lt hp) (S.push _ _))
theorem r_nextRange {i : Addr} {x left step : Int} {Q : Option Value → Shared → Prop} (hh : A.handled = none) (S : St g os h₀ L l ((i, rangeIt x left step) :: news) s) (hd : ∀ p ∈ news, p.1 ≠ i)
    (h1 : 0 < left → ∀ t s', St g os h₀ L l ((i, rangeIt (x + step) (left - 1) step) :: news) s' → Q (some (.int x t)) s')
    (h2 : left ≤ 0 → ∀ s', St g os h₀ L l news s' → Q none s') : wpAny (model prog w) A (pyNext (.ref i)) Q E s := by
  by_cases hl : 0 < left
  · refine wpAny_pyNext_range_item (S.nw _ (.head _)).1 hl fun h' hit hs => h1 hl _ _ (S.change (.head hd) hs hit _)
  · refine wpAny_pyNext_range_end hh (S.nw _ (.head _)).1 (by omega) fun h' hs => h2 (by omega) _ ?_
    exact S.lose hd hs s.toks
theorem r_assign {name : Str} {scope : Scope} {cd : Value} {x : Str} {pos : Pos} {v : Value} {Q : Unit → Shared → Prop} (S : St g os h₀ L l news s) (h : ∀ s', St g os h₀ L ((x, v) :: l) news s' → Q () s')
    (hk : scope.kind = .function := by rfl) (hl : (envOf name scope L a cd).kindOf x = some .local := by rfl) :
    wpAny (model prog w) A (assign (.Name x pos) (envOf name scope L a cd) v) Q E s := wpAny_assign_Name (r_store S h hk hl)
theorem r_listRange {r : Addr} {x y z : Int} {t u v : Tok} {n : Nat} {Q : Value → Shared → Prop} (hh : A.handled = none) (S : St g os h₀ L l news s) (hm : (r, rangeObj x y z t u v) ∈ news)
    (hsm : Builtin.Range.small x y z = true) (hn : Builtin.Range.rangeSize x y z = (n : Int)) (hlen : n ≤ 2 ^ 24)
    (h : ∀ a vs ep s', (∀ p ∈ news, p.1 < a) → IntsAre vs (rangeInts x z n) → St g os h₀ L l ((a, listOf vs.toArray ep) :: news) s' → Q (.ref a) s') : wpAny (model prog w) A (call (.type "list") [.ref r]) Q E s := by
  refine call_list_range hh (S.nw _ hm).1 hsm hn hlen fun h' tk acc' c' hk hS' hacc => ?_
  refine h _ acc'.toList c' _ (fun p hp => S.lt hp) ?_ ⟨let ⟨m, F, H⟩ := S.fr; ⟨m, F.keeps hk, H⟩, fun p hp => ?_, S.gens, S.os⟩
  · have hlen : acc'.toList.length = (rangeInts x z n).length := by simp [hacc.1, rangeInts_length]
    have : ∀ (vs : List Value) (ns : List Int), vs.length = ns.length → (∀ (j : Nat) (v : Value), vs[j]? = some v → ∃ i t, ns[j]? = some i ∧ v = Value.int i t) → IntsAre vs ns := by
      intro vs
      induction vs with
      | nil => intro ns hl _; cases ns with
        | nil => exact .nil
        | cons => cases hl
      | cons a r ih => intro ns hl hj; cases ns with
        | nil => cases hl
        | cons b q =>
          obtain ⟨i, t, e1, rfl⟩ := hj 0 a rfl
          cases e1
          exact .cons _ t (ih q (by simpa using hl) fun j v e => hj (j + 1) v e)
    refine this _ _ hlen fun j v hv => ?_
    have hv' : acc'[j]? = some v := by simpa using hv
    obtain ⟨tk, rfl⟩ := hacc.2 j v hv'
    have hj : j < n := by
      have := (Array.getElem?_eq_some_iff.mp hv').1
      rw [hacc.1] at this; exact this
    exact ⟨_, tk, rangeInts_get hj, rfl⟩
  · rcases List.mem_cons.mp hp with rfl | hp
    · refine ⟨hS', Nat.ne_of_gt S.Llt, ?_⟩
      cases q : h₀.get? s.heap.objs.size with
      | none => rfl
      | some o => exact absurd (Heap.lt_size (S.keep _ _ q)) (Nat.lt_irrefl _)
    · exact ⟨hk _ _ (S.nw p hp).1, (S.nw p hp).2⟩
theorem r_setItem {D : Addr} {vs : List Value} {n : Nat} {ns : List Int} {k x : Int} {t u : Tok} {Q : Unit → Shared → Prop} (S : St g os h₀ L l news s) (hi : IntsAre vs ns)
    (U : Upd D (listOf vs.toArray n) (listOf (vs.set k.toNat (Value.int x u)).toArray n) news news') (h0 : 0 ≤ k) (h1 : k < ns.length) (hfit : k < 2 ^ 63)
    (h : ∀ s', IntsAre (vs.set k.toNat (Value.int x u)) (ns.set k.toNat x) → St g os h₀ L l news' s' → Q () s') : wpAny (model prog w) A (setItem (.ref D) (.int k t) (.int x u)) Q E s :=
  let ⟨_, F, H⟩ := S.fr; ksa_set F S.nw U hi h0 h1 hfit fun h' F' N' hi' _ _ => h _ hi' ⟨⟨_, F', H⟩, N', S.gens, S.os⟩
theorem r_itemI {value slice : Expr} {D : Addr} {vs : List Value} {n : Nat} {ns : List Int} {k : Int} {u : Tok} {Q : Value → Shared → Prop} (S : St g os h₀ L l news s) (hm : (D, listOf vs.toArray n) ∈ news) (hi : IntsAre vs ns)
    (h0 : 0 ≤ k) (h1 : k < ns.length) (hfit : k < 2 ^ 63) (h : ∀ t, Q (.int (ns.getD k.toNat 0) t) s)
    (hs : subscripted slice false (.ref D) (.int k u) = operate [.ref D, .int k u] (getItem (.ref D) (.int k u)) := by with_unfolding_all rfl) :
    wpAny (model prog w) A (subscriptTail value slice (.ref D) (.int k u)) Q E s := ksa_sub S.nw hm hi h0 h1 hfit h hs
theorem r_item {value slice : Expr} {D : Addr} {vs : List Value} {n : Nat} {k : Int} {u : Tok} {v : Value} {Q : Value → Shared → Prop} (S : St g os h₀ L l news s) (hm : (D, listOf vs.toArray n) ∈ news) (hx : vs[k.toNat]? = some v)
    (h0 : 0 ≤ k) (hfit : k < 2 ^ 63) (h : Q v s)
    (hs : subscripted slice false (.ref D) (.int k u) = operate [.ref D, .int k u] (getItem (.ref D) (.int k u)) := by with_unfolding_all rfl) :
    wpAny (model prog w) A (subscriptTail value slice (.ref D) (.int k u)) Q E s := item_litK (PySem.IsL.isList (n := n) (S.nw _ hm).1) h0 hfit hx h hs
theorem r_newList {vs : List Value} {Q : Value → Shared → Prop} (S : St g os h₀ L l news s) (hsz : vs.length ≤ 1000000)
    (h : ∀ d s', (∀ p ∈ news, p.1 < d) → St g os h₀ L l ((d, listOf vs.toArray 0) :: news) s' → Q (.ref d) s') : wpAny (model prog w) A (newList vs) Q E s :=
  let ⟨_, F, H⟩ := S.fr; newList_K F S.nw (fun d h' F' N' hd => h d _ hd ⟨⟨_, F', H⟩, N', S.gens, S.os⟩) (sl_le hsz)
theorem r_append {D : Addr} {its : Array Value} {n : Nat} {x : Value} {Q : Value → Shared → Prop} (S : St g os h₀ L l news s) (U : Upd D (listOf its n) (listOf (its.push x) (n + 1)) news news') (hsz : its.size ≤ 1000000)
    (h : ∀ s', St g os h₀ L l news' s' → Q .none s') : wpAny (model prog w) A (call (.builtin "list.append") [.ref D, x]) Q E s :=
  let ⟨_, F, H⟩ := S.fr; append_K F S.nw U (fun h' F' N' => h _ ⟨⟨_, F', H⟩, N', S.gens, S.os⟩) (sl_le hsz)
noncomputable abbrev tupOf (its : Array Value) (n : Nat) : Obj := { cls := .type "tuple", data := .seq its n }
theorem r_newTuple {vs : List Value} {Q : Value → Shared → Prop} (S : St g os h₀ L l news s) (hsz : vs.length ≤ 1000000)
    (h : ∀ d s', (∀ p ∈ news, p.1 < d) → St g os h₀ L l ((d, tupOf vs.toArray 0) :: news) s' → Q (.ref d) s') : wpAny (model prog w) A (newTuple vs) Q E s :=
  let ⟨_, F, H⟩ := S.fr; newTuple_N F S.nw (fun h' F' N' => h _ _ (fun p hp => S.lt hp) ⟨⟨_, F', H⟩, N', S.gens, S.os⟩) (sl_le hsz)
theorem r_unpackItems {t : Addr} {items : List Value} {n k : Nat} {Q : List Value → Shared → Prop} (hh : A.handled = none) (S : St g os h₀ L l news s) (hm : (t, tupOf items.toArray k) ∈ news) (hn : n = items.length)
    (h : ∀ s', St g os h₀ L l news s' → Q items s') : wpAny (model prog w) A (unpackItems (.ref t) n none) Q E s :=
  let ⟨_, F, H⟩ := S.fr; unpackItemsN_ F S.nw (S.nw.isTup hm) hh (by simpa using hn) fun h' F' N' => h _ ⟨⟨_, F', H⟩, N', S.gens, S.os⟩
theorem r_unpack {elts : List Expr} {k n : Nat} {pos : Pos} {t : Addr} {items : List Value} {Q : Unit → Shared → Prop} (hh : A.handled = none) (S : St g os h₀ L l news s) (hm : (t, tupOf items.toArray n) ∈ news)
    (hn : (assignEach elts env).length = items.length) (hstar : (assignEach elts env).findIdx? (·.1) = none)
    (h : ∀ s', St g os h₀ L l news s' → wpAny (model prog w) A (assignInOrder ((assignEach elts env).map (·.2)) items) Q E s') :
    wpAny (model prog w) A (assign (.Tuple elts k pos) env (.ref t)) Q E s :=
  let ⟨_, F, H⟩ := S.fr; unpackN_ F S.nw (S.nw.isTup hm) hh (by simpa using hn) hstar fun h' F' N' => h _ ⟨⟨_, F', H⟩, N', S.gens, S.os⟩
end
section
variable {M : Model} {A : Around} {E : Value → Shared → Prop} {s : Shared} {env : Env}
/-- the two ways of an if meet -/
theorem r_ifJ {test body orelse pos} {Q : Flow → Shared → Prop} (J : Shared → Prop)
    (h : wpAny M A (isTrue test env (eval test env)) (fun b s₂ => Br b (wpAny M A (execs body env) (fun f s => f = .next ∧ J s) E s₂) (wpAny M A (execs orelse env) (fun f s => f = .next ∧ J s) E s₂)) E s)
    (k : ∀ s, J s → Q .next s) : wpAny M A (exec (.If test body orelse pos) env) Q E s :=
  r_if (wpAny_mono h (fun b s' h' => by
    cases b with
    | true => exact wpAny_mono h' (fun f s hf => by obtain ⟨rfl, hj⟩ := hf; exact k _ hj) fun _ _ e => e
    | false => exact wpAny_mono h' (fun f s hf => by obtain ⟨rfl, hj⟩ := hf; exact k _ hj) fun _ _ e => e) fun _ _ e => e)
end
end Mine
end
section
open PySem PySem.W PyProof.Rows PySem.Calls PySem.Builtin.Str
set_option Elab.async false
set_option maxRecDepth 100000
set_option maxHeartbeats 1000000
set_option linter.unusedVariables false
namespace Mine
/-- a text by the list of its signs -/
noncomputable def T (l : List Nat) : Str := ⟨l.toArray⟩
theorem T_len (l : List Nat) : (T l).length = l.length := List.size_toArray
theorem T_inj {a b : List Nat} (h : T a = T b) : a = b := by
  have := congrArg (fun s : Str => s.cps.toList) h
  simpa [T] using this
theorem T_beq (a b : List Nat) : (T a == T b) = (a == b) := by
  by_cases h : a = b
  · subst h; simp
  · have : T a ≠ T b := fun e => h (T_inj e)
    rw [beq_eq_false_iff_ne.mpr h, beq_eq_false_iff_ne.mpr this]
theorem T_append (a b : List Nat) : T a ++ T b = T (a ++ b) := by
  show Str.append _ _ = _
  simp [Str.append, T]
theorem range_pick (a : List Nat) (i n : Nat) (h : i + n ≤ a.length) : ((List.range n).map fun (k : Nat) => ((i : Int) + 1 * (k : Int)).toNat).filterMap (a.toArray[·]?) = (a.drop i).take n := by
  rw [List.filterMap_map]
  induction n with
  | zero => simp
  | succ n ih =>
    rw [List.range_succ, List.filterMap_append, ih (by omega)]
    have e : (a.drop i)[n]? = some (a[i + n]'(by omega)) := by
      rw [List.getElem?_drop, List.getElem?_eq_getElem (by omega)]
    rw [List.take_add_one, e]
    have e2 : ((i : Int) + 1 * (n : Int)).toNat = i + n := by (clear h e; omega)
    have e3 : a[i + n]? = some (a[i + n]'(by (clear e; omega))) := List.getElem?_eq_getElem (show i + n < a.length by (clear e; omega))
    simp only [List.filterMap_cons, Function.comp, e2, List.filterMap_nil, List.getElem?_toArray, e3, Option.toList]
theorem T_slice (a : List Nat) (l u : Option Int) (i j : Nat) (hij : i ≤ j) (hj : j ≤ a.length)
    (hl : (match l with | none => 0 | some x => max 0 (min (if x < 0 then x + a.length else x) (a.length : Int))) = (i : Int))
    (hu : (match u with | none => (a.length : Int) | some x => max 0 (min (if x < 0 then x + a.length else x) (a.length : Int))) = (j : Int)) :
    Txt.slice (T a) l u = T ((a.drop i).take (j - i)) := by
  have e : strSliceIndices l u 1 (T a).length = (List.range (j - i)).map fun (k : Nat) => ((i : Int) + 1 * (k : Int)).toNat := by
    rw [T_len]
    unfold strSliceIndices sliceRange
    have key : ∀ x y : Int, x = i → y = j → (List.range (if (1 : Int) > 0 then (if x < y then (y - x + 1 - 1) / 1 else 0) else (if x > y then (x - y - 1 - 1) / (-1) else 0)).toNat).map (fun (k : Nat) => (x + 1 * (k : Int)).toNat) = (List.range (j - i)).map fun (k : Nat) => ((i : Int) + 1 * (k : Int)).toNat := by
      rintro x y rfl rfl
      congr 2
      simp only [show (1 : Int) > 0 by decide, if_true]
      split <;> first | (rw [Int.add_sub_cancel, Int.ediv_one]; clear hj; omega) | (clear hj; omega)
    cases l <;> cases u <;> exact key _ _ hl hu
  unfold Txt.slice
  rw [e]
  have hp := range_pick a i (j - i) (by (clear e; omega))
  by_cases hc : ((1 : Int) == 1 && ((List.range (j - i)).map fun (k : Nat) => ((i : Int) + 1 * (k : Int)).toNat).length == (T a).length) = true
  · rw [if_pos hc]
    have : j - i = a.length := by simpa [T_len] using hc
    have hi0 : i = 0 := by (clear e hp hc; omega)
    subst hi0
    rw [this]; simp
  · rw [if_neg hc]
    show T _ = _
    exact congrArg T hp
theorem T_slice_n (a : List Nat) : Txt.slice (T a) none none = T a := by
  rw [T_slice a none none 0 a.length (by omega) (by omega) rfl rfl]; simp
theorem T_slice_lo (a : List Nat) (i : Nat) : Txt.slice (T a) (some (i : Int)) none = T (a.drop i) := by
  by_cases h : i ≤ a.length
  · rw [T_slice a _ none i a.length h (by (clear h; omega)) (by simp only; split <;> omega) rfl]
    rw [List.take_of_length_le (by simp)]
  · rw [T_slice a _ none a.length a.length (by (clear h; omega)) (by (clear h; omega)) (by simp only; split <;> omega) rfl]
    rw [List.take_of_length_le (by simp)]
    congr 1
    rw [List.drop_of_length_le (by (clear h; omega)), List.drop_of_length_le (by omega)]
theorem T_slice_hi (a : List Nat) (i : Nat) : Txt.slice (T a) none (some (i : Int)) = T (a.take i) := by
  by_cases h : i ≤ a.length
  · rw [T_slice a none _ 0 i (by (clear h; omega)) h rfl (by simp only; split <;> omega)]; simp
  · rw [T_slice a none _ 0 a.length (by (clear h; omega)) (by (clear h; omega)) rfl (by simp only; split <;> omega)]
    simp
    rw [List.take_of_length_le (by omega)]
theorem T_slice_hineg (a : List Nat) (i : Nat) (h0 : 0 < i) (h : i ≤ a.length) : Txt.slice (T a) none (some (-(i : Int))) = T (a.take (a.length - i)) := by
  rw [T_slice a none _ 0 (a.length - i) (by (clear h0 h; omega)) (by omega) rfl (by simp only; split <;> omega)]; simp
theorem T_slice_loneg1 (a : List Nat) : Txt.slice (T a) (some (-1)) none = T (a.drop (a.length - 1)) := by
  rw [T_slice a _ none (a.length - 1) a.length (by omega) (by omega) (by simp only; split <;> omega) rfl]
  rw [List.take_of_length_le (by simp)]
theorem T_slice_lohi (a : List Nat) (i j : Nat) (h : i ≤ j) : Txt.slice (T a) (some (i : Int)) (some (j : Int)) = T ((a.take j).drop i) := by
  rw [T_slice a _ _ (min i a.length) (min j a.length) (by omega) (by (clear h; omega)) (by simp only; split <;> (clear h; omega)) (by simp only; split <;> (clear h; omega))]
  congr 1
  rw [List.drop_take]
  by_cases h1 : i ≤ a.length
  · rw [Nat.min_eq_left h1]
    by_cases h2 : j ≤ a.length
    · rw [Nat.min_eq_left h2]
    · rw [Nat.min_eq_right (by (clear h h1; omega)), List.take_of_length_le (by simp), List.take_of_length_le (by simp; (clear h1; omega))]
  · rw [Nat.min_eq_right (by omega), List.drop_of_length_le (by (clear h; omega)), List.drop_of_length_le (by (clear h; omega))]; simp
theorem T_item (a : List Nat) (i : Nat) (h : i < a.length) : Txt.item (T a) (i : Int) = T [a[i]] := by
  unfold Txt.item Txt.charAt
  rw [T_len]
  have : seqIndex? (i : Int) a.length = some i := by
    unfold seqIndex?
    simp only [show ¬ ((i : Int) < 0) by (clear h; omega), if_false]
    rw [if_pos (by simp; omega)]; simp
  rw [this]
  simp [T, List.getElem?_eq_getElem h]
theorem T_item_neg (a : List Nat) (i : Nat) (h0 : 0 < i) (h : i ≤ a.length) : Txt.item (T a) (-(i : Int)) = T [a[a.length - i]'(by omega)] := by
  unfold Txt.item Txt.charAt
  rw [T_len]
  have : seqIndex? (-(i : Int)) a.length = some (a.length - i) := by
    unfold seqIndex?
    simp only [show (-(i : Int) < 0) by (clear h; omega), if_true]
    rw [if_pos (by simp; omega)]; congr 1; (clear h0; omega)
  rw [this]
  simp [T, List.getElem?_eq_getElem (show a.length - i < a.length by (clear this; omega))]
theorem T_lower (a : List Nat) (h : ∀ c ∈ a, c < 128) : Txt.lower (T a) = T (a.map lo1) := by
  rw [lower_ascii (by simpa [T] using h)]
  simp [T]
end Mine
end
section
open PySem PySem.W PyProof.Rows PySem.Calls
set_option Elab.async false
set_option maxRecDepth 100000
set_option maxHeartbeats 1000000
set_option linter.unusedVariables false
namespace Mine
section
variable {prog : Program} {w : World} {A : Around} {E : Value → Shared → Prop} {s : Shared} {g : Array GenState} {os : OsState} {h₀ : Heap} {L a : Addr} {l l' : List (Str × Value)} {news : List (Addr × Obj)} {env : Env}
theorem r_neg {a : Int} {t : Tok} {Q : Value → Shared → Prop} (S : St g os h₀ L l news s) (h : ∀ t s', St g os h₀ L l news s' → Q (.int (-a) t) s') : wpAny (model prog w) A (unaryOp .USub (.int a t)) Q E s := neg_int (h _ _ (S.toks _))
theorem r_mod {a b : Int} {t u : Tok} {Q : Value → Shared → Prop} (S : St g os h₀ L l news s) (hb : b ≠ 0) (h : ∀ t s', St g os h₀ L l news s' → Q (.int (a.fmod b) t) s') : wpAny (model prog w) A (binaryOp .Mod (.int a t) (.int b u)) Q E s := mod_int' hb (h _ _ (S.toks _))
theorem r_fdiv {a b : Int} {t u : Tok} {Q : Value → Shared → Prop} (S : St g os h₀ L l news s) (hb : b ≠ 0) (hs : b.natAbs < 1073741824) (h : ∀ t s', St g os h₀ L l news s' → Q (.int (a.fdiv b) t) s') : wpAny (model prog w) A (binaryOp .FloorDiv (.int a t) (.int b u)) Q E s := floordiv_int hb (h _ _ (S.toks _)) (.inl (PyProof.noPylong_small hs))
/-- the names that are known, row by row -/
noncomputable def Sub : List (Str × Value) → List (Str × Value) → Prop
  | [], _ => True
  | (x, v) :: r, l => l.lookup x = some v ∧ Sub r l
theorem Sub.all : ∀ {l' : List (Str × Value)} {l : List (Str × Value)}, Sub l' l → ∀ p ∈ l', l.lookup p.1 = some p.2
  | [], _, _, _, h => nomatch h
  | (x, v) :: r, l, ⟨a, b⟩, p, h => by
    rcases List.mem_cons.mp h with rfl | h
    · exact a
    · exact Sub.all b p h
theorem St.re (S : St g os h₀ L l news s) (h : Sub l' l) : St g os h₀ L l' news s := S.names (names_of (Sub.all h))
theorem St.re0 (S : St g os h₀ L l news s) (h : Sub l' l) : St g os h₀ L l' [] s := (S.re h).drop fun _ hp => nomatch hp
end
noncomputable def subC (x y : Nat) : Int := if x = y then 0 else if lo1 x = lo1 y then 1 else 2
section
variable {w : World} {A : Around} {s : Shared}
theorem sub_spec {x y : Nat} {t u : Tok} {E : Value → Shared → Prop} {Q : Value → Shared → Prop} (B : Base w s.heap) (hr : A.depth < recursionLimit) (hx : x < 128) (hy : y < 128)
    (h : ∀ t s', Grow s s' → Q (.int (subC x y) t) s') : wpAny (MM w) A (call (.ref 21) [.str (T [x]) t, .str (T [y]) u]) Q E s := by
  have hX : (T [x]).length ≤ 1000000 := by rw [T_len]; show 1 ≤ 1000000; decide
  have hY : (T [y]).length ≤ 1000000 := by rw [T_len]; show 1 ≤ 1000000; decide
  refine r_callP (binds := [("ch_a", .str (T [x]) t), ("ch_b", .str (T [y]) u)]) rfl rfl rfl rfl B hr (fun L s₁ S => ?_)
  refine r_cons ?_; refine r_if ?_; refine wpAny_isTrue_Compare1 ?_; refine r_name (by assumption) (by rfl) ?_
  refine r_name (by assumption) (by rfl) ?_; refine PyProof.Rows.eq_str ?_; refine wpAny_truthy_bool ?_
  rw [T_beq]
  refine Br.split (fun e => ?_) (fun e => ?_)
  · refine r_cons ?_; refine wpAny_Return_some ?_; refine r_int (by assumption) ?_; intro _ _ _; refine SeqQ.ret ?_; refine SeqQ.ret ?_
    refine RetQ.ret ?_
    rename_i S'
    have e' : x = y := by simpa using e
    have := h ‹_› _ S'.out
    simpa only [subC, e', if_true] using this
  · have e' : ¬ x = y := by simpa using e
    refine r_nil ?_; refine SeqQ.go ?_; refine r_cons ?_; refine r_if ?_; refine wpAny_isTrue_Compare1 ?_; refine MethodCall_ ?_
    refine r_name (by assumption) (by rfl) ?_; refine GM.lower ?_; refine PyProof.Rows.callWith_method0 ?_
    refine r_lower (by assumption) (by assumption) ?_; intro _ _ _; refine MethodCall_ ?_; refine r_name (by assumption) (by rfl) ?_
    refine GM.lower ?_; refine PyProof.Rows.callWith_method0 ?_; refine r_lower (by assumption) (by assumption) ?_; intro _ _ _
    refine PyProof.Rows.eq_str ?_; refine wpAny_truthy_bool ?_
    rw [T_lower _ (by simpa using hx), T_lower _ (by simpa using hy), T_beq]
    refine Br.split (fun e₂ => ?_) (fun e₂ => ?_)
    · have e₂' : lo1 x = lo1 y := by simpa using e₂
      refine r_cons ?_; refine wpAny_Return_some ?_; refine r_global (by assumption) (by assumption) (gvCASECOST _) ?_; refine SeqQ.ret ?_
      refine SeqQ.ret ?_; refine RetQ.ret ?_
      rename_i S'
      have := h 193 _ S'.out
      simpa only [subC, e', e₂', if_true, if_false] using this
    · have e₂' : ¬ lo1 x = lo1 y := by simpa using e₂
      refine r_nil ?_; refine SeqQ.go ?_; refine r_cons ?_; refine wpAny_Return_some ?_
      refine r_global (by assumption) (by assumption) (gvMOVECOST _) ?_; refine SeqQ.ret ?_; refine RetQ.ret ?_
      rename_i S'
      have := h 191 _ S'.out
      simpa only [subC, e', e₂', if_true, if_false] using this
end
end Mine
end
section
open PySem PySem.W PyProof.Rows PySem.Calls
set_option Elab.async false
set_option maxRecDepth 100000
set_option maxHeartbeats 1000000
set_option linter.unusedVariables false
namespace Mine
noncomputable def min2 (a b : Int) : Int := if b < a then b else a
/-- one row of the table -/
noncomputable def inn (c : Nat) : List Nat → List Int → Int → Int → Int → List Int × Int × Int
  | x :: xs, r :: rs, d, res, m =>
    let res' := min2 (min2 res r + 2) (d + subC c x)
    let m' := if res' < m then res' else m
    let q := inn c xs rs r res' m'
    (res' :: q.1, q.2)
  | _, _, _, res, m => ([], res, m)
noncomputable def outr (a : List Nat) (cmax : Int) : List Nat → List Int → Int → Int → Int
  | c :: cs, row, k, _ =>
    let q := inn c a row (k * 2) (k * 2) 9223372036854775807
    if cmax < q.2.2 then cmax + 1 else outr a cmax cs q.1 (k + 1) q.2.1
  | [], _, _, res => res
/-- the common head struck -/
noncomputable def lcp : List Nat → List Nat → List Nat × List Nat
  | x :: xs, y :: ys => if x = y then lcp xs ys else (x :: xs, y :: ys)
  | [], b => ([], b)
  | a, [] => (a, [])
noncomputable def lev2 (a b : List Nat) (cmax : Int) : Int :=
  if ((b.length : Int) - a.length) * 2 > cmax then cmax + 1 else outr a cmax b ((List.range a.length).map fun (i : Nat) => 2 + (i : Int) * 2) 0 0
noncomputable def lev (a b : List Nat) (cmax : Int) : Int :=
  if a = b then 0 else
  let p := lcp a b
  let q := lcp p.1.reverse p.2.reverse
  let a := q.1.reverse
  let b := q.2.reverse
  if a = [] ∨ b = [] then 2 * ((a.length : Int) + b.length) else
  if b.length < a.length then lev2 b a cmax else lev2 a b cmax
theorem lcp_nil_r (a : List Nat) : lcp a [] = (a, []) := by cases a <;> rfl
theorem r_letName {M : Model} {A : Around} {E : Value → Shared → Prop} {s : Shared} {x : Str} {p : Pos} {it v : Value} {Q : Unit → Shared → Prop} (h : Q () s) : wpAny M A (letOwnedTupleGo (.Name x p) it v) Q E s := wpAny_of_eq rfl h
section
variable {prog : Program} {w : World} {A : Around} {E : Value → Shared → Prop} {s : Shared} {g : Array GenState} {os : OsState} {h₀ : Heap} {L a : Addr} {l : List (Str × Value)}
theorem r_setItem3 {D p q : Addr} {op oq : Obj} {vs : List Value} {n : Nat} {ns : List Int} {k x : Int} {t u : Tok} {Q : Unit → Shared → Prop} (S : St g os h₀ L l [(p, op), (q, oq), (D, listOf vs.toArray n)] s) (hi : IntsAre vs ns)
    (hp : p ≠ D) (hq : q ≠ D) (h0 : 0 ≤ k) (h1 : k < ns.length) (hfit : k < 2 ^ 63)
    (h : ∀ s', IntsAre (vs.set k.toNat (Value.int x u)) (ns.set k.toNat x) → St g os h₀ L l [(p, op), (q, oq), (D, listOf (vs.set k.toNat (Value.int x u)).toArray n)] s' → Q () s') : wpAny (model prog w) A (setItem (.ref D) (.int k t) (.int x u)) Q E s :=
  r_setItem S hi (.tail hp (.tail hq (.head (fun _ h => nomatch h)))) h0 h1 hfit h
end
theorem small2 : ∀ n : Nat, n ≤ 40 → Builtin.Range.small 2 (2 * ((n : Int) + 1)) 2 = true := by decide
theorem size2 : ∀ n : Nat, n ≤ 40 → Builtin.Range.rangeSize 2 (2 * ((n : Int) + 1)) 2 = (n : Int) := by decide
section
variable {prog : Program} {w : World} {A : Around} {E : Value → Shared → Prop} {s : Shared} {g : Array GenState} {os : OsState} {h₀ : Heap} {L a : Addr} {l : List (Str × Value)} {news : List (Addr × Obj)}
theorem r_iterRange1 {r : Addr} {n : Nat} {t u v : Tok} {Q : Value → Shared → Prop} (S : St g os h₀ L l ((r, rangeObj 0 (n : Int) 1 t u v) :: news) s) (hn : n ≤ 1000000) (hd : ∀ p ∈ news, p.1 < r)
    (h : ∀ i s', (∀ p ∈ news, p.1 < i) → St g os h₀ L l ((i, rangeIt 0 (n : Int) 1) :: news) s' → Q (.ref i) s') : wpAny (model prog w) A (pyIter (.ref r)) Q E s := by
  refine r_iterRange S (.head _) (small_one (by (clear hn; omega)) (by (clear hn; omega)) (by omega) (by omega)) fun i s' hi S' => ?_
  have e : Builtin.Range.rangeSize 0 (n : Int) 1 = n := by rw [rangeSize_nat]; simp
  rw [e] at S'
  exact h i s' (fun p hp => hi p (.tail _ hp)) (S'.drop fun p hp => by
    rcases List.mem_cons.mp hp with rfl | hp
    · exact .head _
    · exact .tail _ (.tail _ hp))
end
section
variable {prog : Program} {w : World} {A : Around} {E : Value → Shared → Prop} {s : Shared} {g : Array GenState} {os : OsState} {h₀ : Heap} {L a : Addr} {l : List (Str × Value)} {news : List (Addr × Obj)} {name : Str} {scope : Scope} {cd : Value}
/-- X[:post or None] -/
theorem r_post {x : Str} {p1 p2 p3 p4 p5 p6 : Pos} {k : Nat} {a' a₂ q : List Nat} {t1 t2 : Tok} {Q : Value → Shared → Prop} (S : St g os h₀ L l news s) (hx : l.lookup x = some (.str (T a') t2)) (hp : l.lookup ("post" : Str) = some (.int (-(q.length : Int)) t1))
    (ha : a' = a₂ ++ q) (hz : a'.length ≤ 1000000) (h : ∀ t s', St g os h₀ L l news s' → Q (.str (T a₂) t) s')
    (hk : scope.kind = .function := by rfl) (h1 : (envOf name scope L a cd).kindOf x = some .local := by rfl) (h2 : (envOf name scope L a cd).kindOf ("post" : Str) = some .local := by rfl) (hd : (x == ("__debug__" : Str)) = false := by decide) :
    wpAny (model prog w) A (eval (.Subscript (.Name x p1) (.Slice none (some (.BoolOp .Or [.Name "post" p2, .Constant .none k p3] p4)) none p5) p6) (envOf name scope L a cd)) Q E s := by
  have hZ : (T a').length ≤ 1000000 := by rw [T_len]; exact hz
  refine Subscript_ (r_name S hx ?_ hk h1 hd)
  refine r_slice (r_part0 (r_part1 (r_vor (r_name S hp ?_ hk h2))))
  refine truthy_int ?_
  by_cases hq : q.length = 0
  · have e1 : (-(q.length : Int) != 0) = false := by rw [hq]; rfl
    refine Br.neg e1 (BoolOp_one (Constant_none (r_part0 ?_)))
    refine r_sliceS_nn S hZ ?_
    intro t s' S'
    rw [T_slice_n]
    have : q = [] := List.length_eq_zero_iff.mp hq
    rw [ha, this, List.append_nil]
    exact h _ _ S'
  · have e1 : (-(q.length : Int) != 0) = true := by simp; intro e; exact hq (by rw [e]; rfl)
    refine Br.pos e1 (r_part0 ?_)
    refine r_sliceS_ns S hZ ?_
    intro t s' S'
    rw [T_slice_hineg _ _ (by (clear hx hp ha hz hk h1 h2 hd hZ e1; omega)) (by rw [ha]; simp)]
    have : a'.take (a'.length - q.length) = a₂ := by rw [ha]; simp
    rw [this]
    exact h _ _ S'
end
section
variable {w : World} {A : Around} {s : Shared}
set_option maxHeartbeats 4000000 in
theorem lev_spec {a b : List Nat} {c : Int} {t u v : Tok} {Q : Value → Shared → Prop} (B : Base w s.heap) (hh : A.handled = none) (hr : A.depth + 5 < recursionLimit) (ha : ∀ x ∈ a, x < 128) (hb : ∀ x ∈ b, x < 128) (hla : a.length ≤ 40) (hlb : b.length ≤ 40)
    (h : ∀ t s', Grow s s' → Q (.int (lev a b c) t) s') : wpAny (MM w) A (call (.ref 28) [.str (T a) t, .str (T b) u, .int c v]) Q NoE s := by
  have hA : (T a).length ≤ 1000000 := by rw [T_len]; (clear hh hr hlb; omega)
  have hB : (T b).length ≤ 1000000 := by rw [T_len]; (clear hh hr hla hA; omega)
  refine r_callP (binds := [("a", .str (T a) t), ("b", .str (T b) u), ("max_cost", .int c v)]) rfl rfl rfl rfl B (by (clear hh hla hlb hA hB; omega)) (fun L s₁ S => ?_)
  refine r_cons ?_; refine r_if ?_; refine wpAny_isTrue_Compare1 ?_; refine r_name (by assumption) (by rfl) ?_
  refine r_name (by assumption) (by rfl) ?_; refine PyProof.Rows.eq_str ?_; refine wpAny_truthy_bool ?_
  rw [T_beq]
  refine Br.split (fun e => ?_) (fun e => ?_)
  · have e' : a = b := by simpa using e
    refine r_cons ?_; refine wpAny_Return_some ?_; refine r_int (by assumption) ?_; intro _ _ _; refine SeqQ.ret ?_; refine SeqQ.ret ?_
    refine RetQ.ret ?_
    rename_i S'
    have := h ‹_› _ S'.out
    simpa only [lev, e', if_true] using this
  have e' : ¬ a = b := by simpa using e
  refine r_nil ?_; refine SeqQ.go ?_; refine r_cons ?_; refine wpAny_Assign_Name ?_; refine r_int (by assumption) ?_; intro _ _ _
  refine r_store (by assumption) ?_; intro _ _; refine SeqQ.go ?_; refine r_cons ?_
  refine r_whileX (fun n s' => ∃ p a' b' tp, St s.gens s.os s.heap L [("pre", .int (p.length : Int) tp), ("a", .str (T a) t), ("b", .str (T b) u), ("max_cost", .int c v)] [] s' ∧ a = p ++ a' ∧ b = p ++ b' ∧ lcp a b = lcp a' b' ∧ n = a'.length)
    (fun s' => ∃ p a' b' tp, St s.gens s.os s.heap L [("pre", .int (p.length : Int) tp), ("a", .str (T a) t), ("b", .str (T b) u), ("max_cost", .int c v)] [] s' ∧ a = p ++ a' ∧ b = p ++ b' ∧ lcp a b = (a', b'))
    ?_ a.length ⟨[], a, b, _, St.re (by assumption) ⟨rfl, rfl, rfl, rfl, trivial⟩, rfl, rfl, rfl, rfl⟩ ?_
  · rintro n Tv Xv hTv hXv s' ⟨p, a', b', tp, S', ea, eb, el, rfl⟩
    have sa : Txt.slice (T a) (some (p.length : Int)) none = T a' := by rw [T_slice_lo, ea, List.drop_left]
    have sb : Txt.slice (T b) (some (p.length : Int)) none = T b' := by rw [T_slice_lo, eb, List.drop_left]
    have za : (T a').length ≤ 1000000 := by rw [T_len]; rw [ea, List.length_append] at hla; (clear hh hr hlb hA hB e e' ea eb el sa sb; omega)
    have zb : (T b').length ≤ 1000000 := by rw [T_len]; rw [eb, List.length_append] at hlb; (clear hh hr hla hA hB e e' ea eb el sa sb za; omega)
    refine r_and ?_; refine isTrue_plain ?_; refine Subscript_ ?_; refine r_name (by assumption) (by rfl) ?_; refine r_slice ?_; refine r_part1 ?_
    refine r_name (by assumption) (by rfl) ?_; refine r_part0 ?_; refine r_part0 ?_
    refine r_sliceS_sn (by assumption) (by assumption) ?_; intro _ _ _
    rw [sa]
    refine r_tstr (by assumption) (by assumption) ?_; intro _ _
    cases a' with
    | nil =>
      refine Br.neg (by rw [T_len]; rfl) (Br.f <| hXv _ ⟨p, [], b', tp, by assumption, ea, eb, by rw [el]; rfl⟩)
    | cons x xs =>
    refine Br.pos (by rw [T_len]; rfl) ?_
    refine r_and ?_; refine isTrue_plain ?_; refine Subscript_ ?_; refine r_name (by assumption) (by rfl) ?_; refine r_slice ?_; refine r_part1 ?_
    refine r_name (by assumption) (by rfl) ?_; refine r_part0 ?_; refine r_part0 ?_
    refine r_sliceS_sn (by assumption) (by assumption) ?_; intro _ _ _
    rw [sb]
    refine r_tstr (by assumption) (by assumption) ?_; intro _ _
    cases b' with
    | nil =>
      refine Br.neg (by rw [T_len]; rfl) (Br.f <| hXv _ ⟨p, x :: xs, [], tp, by assumption, ea, eb, by rw [el]; rfl⟩)
    | cons y ys =>
    refine Br.pos (by rw [T_len]; rfl) ?_
    refine r_and ?_; refine wpAny_isTrue_Compare1 ?_; refine Subscript_ ?_; refine r_name (by assumption) (by rfl) ?_
    refine r_name (by assumption) (by rfl) ?_
    have la : p.length < a.length := by rw [ea]; simp
    have lb : p.length < b.length := by rw [eb]; simp
    refine r_itemS (by assumption) hA (by (clear hh hr hlb hB e e' ea sa za eb sb zb el lb; omega)) (by rw [T_len]; (clear hh hr hla hlb hA hB e e' ea sa za eb sb zb el lb; omega)) ?_
    intro t1 s3 S3
    refine Subscript_ ?_; refine r_name (by assumption) (by rfl) ?_; refine r_name (by assumption) (by rfl) ?_
    refine r_itemS (by assumption) hB (by (clear hh hr hlb hA e e' ea sa za eb sb zb el lb; omega)) (by rw [T_len]; (clear hh hr hla hlb hA hB e e' ea sa za eb sb zb el la; omega)) ?_
    intro t2 s4 S4
    have ia : Txt.item (T a) (p.length : Int) = T [x] := by rw [T_item a _ la]; simp [ea]
    have ib : Txt.item (T b) (p.length : Int) = T [y] := by rw [T_item b _ lb]; simp [eb]
    rw [ia, ib]
    refine PyProof.Rows.eq_str ?_; refine wpAny_truthy_bool ?_
    rw [T_beq]
    refine Br.split (fun e1 => ?_) (fun e1 => ?_)
    · have e1' : x = y := by simpa using e1
      refine isTrue_and_nil ?_
      refine Br.t ?_
      refine r_cons ?_; refine wpAny_AugAssign_Name ?_; refine r_load (by assumption) (by rfl) ?_; refine r_int (by assumption) ?_; intro _ _ _
      refine r_iadd (by assumption) ?_; intro _ _ _; refine r_store (by assumption) ?_; intro _ _; refine SeqQ.go ?_; refine r_nil ?_
      have hlen : ((p ++ [x]).length : Int) = p.length + 1 := by simp
      refine hTv _ _ ⟨xs.length, Nat.lt_succ_self _, p ++ [x], xs, ys, _, (by rw [hlen]; exact St.re (by assumption) ⟨rfl, rfl, rfl, rfl, trivial⟩), by rw [ea]; simp, by rw [eb, e1']; simp, ?_, rfl⟩
      rw [el]; simp [lcp, e1']
    · have e1' : ¬ x = y := by simpa using e1
      refine Br.f <| hXv _ ⟨p, x :: xs, y :: ys, tp, by assumption, ea, eb, ?_⟩
      rw [el]; simp [lcp, e1']
  rintro s' ⟨p, a', b', tp, S', ea, eb, el⟩
  have za : (T a').length ≤ 1000000 := by rw [T_len]; rw [ea, List.length_append] at hla; (clear hh hr hlb hA hB e e' ea eb el; omega)
  have zb : (T b').length ≤ 1000000 := by rw [T_len]; rw [eb, List.length_append] at hlb; (clear hh hr hla hA hB e e' ea eb el za; omega)
  have sa : Txt.slice (T a) (some (p.length : Int)) none = T a' := by rw [T_slice_lo, ea, List.drop_left]
  have sb : Txt.slice (T b) (some (p.length : Int)) none = T b' := by rw [T_slice_lo, eb, List.drop_left]
  refine SeqQ.go ?_; refine r_cons ?_; refine wpAny_Assign_Name ?_; refine Subscript_ ?_; refine r_name (by assumption) (by rfl) ?_
  refine r_slice ?_; refine r_part1 ?_; refine r_name (by assumption) (by rfl) ?_; refine r_part0 ?_; refine r_part0 ?_
  refine r_sliceS_sn (by assumption) (by assumption) ?_; intro _ _ _; refine r_store (by assumption) ?_; intro _ _; refine SeqQ.go ?_
  refine r_cons ?_; refine wpAny_Assign_Name ?_; refine Subscript_ ?_; refine r_name (by assumption) (by rfl) ?_; refine r_slice ?_
  refine r_part1 ?_; refine r_name (by assumption) (by rfl) ?_; refine r_part0 ?_; refine r_part0 ?_
  refine r_sliceS_sn (by assumption) (by assumption) ?_; intro _ _ _; refine r_store (by assumption) ?_; intro _ _; refine SeqQ.go ?_
  refine r_cons ?_; refine wpAny_Assign_Name ?_; refine r_int (by assumption) ?_; intro _ _ _; refine r_store (by assumption) ?_; intro _ _
  refine SeqQ.go ?_; refine r_cons ?_
  refine r_whileX (fun n s' => ∃ q a₂ b₂ t1 t2 t3, St s.gens s.os s.heap L [("post", .int (-(q.length : Int)) t1), ("a", .str (T a') t2), ("b", .str (T b') t3), ("max_cost", .int c v)] [] s' ∧ a' = a₂ ++ q ∧ b' = b₂ ++ q ∧ lcp a'.reverse b'.reverse = lcp a₂.reverse b₂.reverse ∧ n = a₂.length)
    (fun s' => ∃ q a₂ b₂ t1 t2 t3, St s.gens s.os s.heap L [("post", .int (-(q.length : Int)) t1), ("a", .str (T a') t2), ("b", .str (T b') t3), ("max_cost", .int c v)] [] s' ∧ a' = a₂ ++ q ∧ b' = b₂ ++ q ∧ lcp a'.reverse b'.reverse = (a₂.reverse, b₂.reverse))
    ?_ a'.length ⟨[], a', b', _, _, _, (by rw [← sa, ← sb]; exact St.re (by assumption) ⟨rfl, rfl, rfl, rfl, trivial⟩), by simp, by simp, rfl, rfl⟩ ?_
  · rintro n Tv Xv hTv hXv s' ⟨q, a₂, b₂, t1, t2, t3, S', ea2, eb2, el2, rfl⟩
    have za' : a'.length ≤ 1000000 := by rw [← T_len]; exact za
    have zb' : b'.length ≤ 1000000 := by rw [← T_len]; exact zb
    have za2 : (T a₂).length ≤ 1000000 := by rw [T_len]; rw [ea2, List.length_append] at za'; (clear hh hr hla hlb hA hB e e' ea eb el za zb sa sb ea2 eb2 el2 zb'; omega)
    have zb2 : (T b₂).length ≤ 1000000 := by rw [T_len]; rw [eb2, List.length_append] at zb'; (clear hh hr hla hlb hA hB e e' ea eb el za zb sa sb ea2 eb2 el2 za' za2; omega)
    refine r_and ?_; refine isTrue_plain ?_; refine r_post (by assumption) (by rfl) (by rfl) (by assumption) (by assumption) ?_; intro _ _ _
    refine r_tstr (by assumption) (by assumption) ?_; intro _ _
    rcases List.eq_nil_or_concat a₂ with rfl | ⟨xs, x, rfl⟩
    · refine Br.neg (by rw [T_len]; rfl) (Br.f <| hXv _ ⟨q, [], b₂, t1, t2, t3, by assumption, ea2, eb2, by rw [el2]; rfl⟩)
    refine Br.pos (by rw [T_len]; simp) ?_
    refine r_and ?_; refine isTrue_plain ?_; refine r_post (by assumption) (by rfl) (by rfl) (by assumption) (by assumption) ?_; intro _ _ _
    refine r_tstr (by assumption) (by assumption) ?_; intro _ _
    rcases List.eq_nil_or_concat b₂ with rfl | ⟨ys, y, rfl⟩
    · refine Br.neg (by rw [T_len]; rfl) (Br.f <| hXv _ ⟨q, _, [], t1, t2, t3, by assumption, ea2, eb2, by rw [el2]; exact lcp_nil_r _⟩)
    refine Br.pos (by rw [T_len]; simp) ?_
    refine r_and ?_; refine wpAny_isTrue_Compare1 ?_; refine Subscript_ ?_; refine r_name (by assumption) (by rfl) ?_; refine wpAny_BinOp ?_
    refine r_name (by assumption) (by rfl) ?_; refine r_int (by assumption) ?_; intro _ _ _; refine r_sub (by assumption) ?_; intro _ _ _
    have la : q.length + 1 ≤ a'.length := by rw [ea2]; simp
    have lb : q.length + 1 ≤ b'.length := by rw [eb2]; simp
    have en : -(q.length : Int) - 1 = -((q.length + 1 : Nat) : Int) := by push_cast; (clear hh hr hla hlb hA hB e e' ea eb el za zb sa sb za' zb' ea2 za2 eb2 zb2 el2 la lb; omega)
    rw [en]
    refine r_itemS (by assumption) za (by rw [T_len]; (clear hh hr hla hlb hA hB e e' ea eb el za zb sa sb za' zb' ea2 za2 eb2 zb2 el2 lb en; omega)) (by (clear hh hr hla hlb hA hB e e' ea eb el zb sa sb za' zb' ea2 za2 eb2 zb2 el2 la lb en; omega)) ?_
    intro t4 s4 S4
    refine Subscript_ ?_; refine r_name (by assumption) (by rfl) ?_; refine wpAny_BinOp ?_; refine r_name (by assumption) (by rfl) ?_
    refine r_int (by assumption) ?_; intro _ _ _; refine r_sub (by assumption) ?_; intro _ _ _
    rw [en]
    refine r_itemS (by assumption) zb (by rw [T_len]; (clear hh hr hla hlb hA hB e e' ea eb el za zb sa sb za' zb' ea2 za2 eb2 zb2 el2 la en; omega)) (by (clear hh hr hla hlb hA hB e e' ea eb el za sa sb za' zb' ea2 za2 eb2 zb2 el2 la lb en; omega)) ?_
    intro t5 s5 S5
    have ia : Txt.item (T a') (-((q.length + 1 : Nat) : Int)) = T [x] := by rw [T_item_neg a' _ (by (clear hh hr hla hlb hA hB e e' ea eb el za zb sa sb za' zb' ea2 za2 eb2 zb2 el2 la lb en; omega)) la]; simp [ea2]
    have ib : Txt.item (T b') (-((q.length + 1 : Nat) : Int)) = T [y] := by rw [T_item_neg b' _ (by (clear hh hr hla hlb hA hB e e' ea eb el za zb sa sb za' zb' ea2 za2 eb2 zb2 el2 la lb en ia; omega)) lb]; simp [eb2]
    rw [ia, ib]
    refine PyProof.Rows.eq_str ?_; refine wpAny_truthy_bool ?_
    rw [T_beq]
    refine Br.split (fun e1 => ?_) (fun e1 => ?_)
    · have e1' : x = y := by simpa using e1
      refine isTrue_and_nil ?_
      refine Br.t ?_
      refine r_cons ?_; refine wpAny_AugAssign_Name ?_; refine r_load (by assumption) (by rfl) ?_; refine r_int (by assumption) ?_; intro _ _ _
      refine r_isub (by assumption) ?_; intro _ _ _; refine r_store (by assumption) ?_; intro _ _; refine SeqQ.go ?_; refine r_nil ?_
      have hlen : (-((x :: q).length : Int)) = -(q.length : Int) - 1 := by simp; (clear hh hr hla hlb hA hB e e' ea eb el za zb sa sb za' zb' ea2 za2 eb2 zb2 el2 la lb en ia ib e1 e1'; omega)
      refine hTv _ _ ⟨xs.length, by simp, x :: q, xs, ys, _, _, _, (by rw [hlen]; exact St.re (by assumption) ⟨rfl, rfl, rfl, rfl, trivial⟩), by rw [ea2]; simp, by rw [eb2, e1']; simp, ?_, rfl⟩
      rw [el2]; simp [lcp, e1']
    · have e1' : ¬ x = y := by simpa using e1
      refine Br.f <| hXv _ ⟨q, _, _, t1, t2, t3, by assumption, ea2, eb2, ?_⟩
      rw [el2]; simp [lcp, e1']
  rintro s' ⟨q, a₂, b₂, t1, t2, t3, S', ea2, eb2, el2⟩
  have za' : a'.length ≤ 1000000 := by rw [← T_len]; exact za
  have zb' : b'.length ≤ 1000000 := by rw [← T_len]; exact zb
  have za2 : (T a₂).length ≤ 1000000 := by rw [T_len]; rw [ea2, List.length_append] at za'; (clear hh hr hla hlb hA hB e e' ea eb el za zb sa sb ea2 eb2 el2 zb'; omega)
  have zb2 : (T b₂).length ≤ 1000000 := by rw [T_len]; rw [eb2, List.length_append] at zb'; (clear hh hr hla hlb hA hB e e' ea eb el za zb sa sb ea2 eb2 el2 za' za2; omega)
  have hl1 : a₂.length ≤ 40 := by rw [ea2, List.length_append] at za'; have := hla; rw [ea, List.length_append, ea2, List.length_append] at this; (clear hh hr hla hlb hA hB e e' ea eb el za zb sa sb ea2 eb2 el2 zb' za2 zb2; omega)
  have hl2 : b₂.length ≤ 40 := by have := hlb; rw [eb, List.length_append, eb2, List.length_append] at this; (clear hh hr hla hlb hA hB e e' ea eb el za zb sa sb ea2 eb2 el2 za' zb' za2 zb2 hl1; omega)
  have hlev : lev a b c = if a₂ = [] ∨ b₂ = [] then 2 * ((a₂.length : Int) + b₂.length) else if b₂.length < a₂.length then lev2 b₂ a₂ c else lev2 a₂ b₂ c := by
    simp only [lev, e', if_false, el, el2, List.reverse_reverse]
  have hc1 : ∀ x ∈ a₂, x < 128 := fun x hx => ha x (by rw [ea, ea2]; simp [hx])
  have hc2 : ∀ x ∈ b₂, x < 128 := fun x hx => hb x (by rw [eb, eb2]; simp [hx])
  refine SeqQ.go ?_; refine r_cons ?_; refine wpAny_Assign_Name ?_
  refine r_post (by assumption) (by rfl) (by rfl) (by assumption) (by assumption) ?_; intro _ _ _; refine r_store (by assumption) ?_; intro _ _
  refine SeqQ.go ?_; refine r_cons ?_; refine wpAny_Assign_Name ?_
  refine r_post (by assumption) (by rfl) (by rfl) (by assumption) (by assumption) ?_; intro _ _ _; refine r_store (by assumption) ?_; intro _ _
  refine SeqQ.go ?_; refine r_cons ?_; refine r_if ?_; refine r_or ?_; refine isTrue_not ?_; refine isTrue_plain ?_
  refine r_name (by assumption) (by rfl) ?_; refine r_tstr (by assumption) (by assumption) ?_; intro _ _
  rename_i tb2 ta2 s9 S9
  have S9 := S9
  clear ea eb el ea2 eb2 el2 sa sb
  rw [hlev] at h
  cases a₂ with
  | nil =>
    rw [if_pos (.inl rfl)] at h
    refine Br.pos (by rw [T_len]; rfl) (Br.t ?_)
    refine r_cons ?_; refine wpAny_Return_some ?_; refine wpAny_BinOp ?_; refine r_global (by assumption) (by assumption) (gvMOVECOST _) ?_
    refine wpAny_BinOp ?_; refine Call_ ?_
    refine r_builtin (by assumption) (by assumption) (by rfl) (by first | reg3_boot | boot_fact) (by decide) ?_
    refine PyProof.Rows.callWith_builtin1 ?_; refine args_cons ?_; refine r_name (by assumption) (by rfl) ?_; refine args_nil ?_
    refine r_lenS (by assumption) (by assumption) ?_; intro _ _ _; refine Call_ ?_
    refine r_builtin (by assumption) (by assumption) (by rfl) (by first | reg3_boot | boot_fact) (by decide) ?_
    refine PyProof.Rows.callWith_builtin1 ?_; refine args_cons ?_; refine r_name (by assumption) (by rfl) ?_; refine args_nil ?_
    refine r_lenS (by assumption) (by assumption) ?_; intro _ _ _; refine r_add (by assumption) ?_; intro _ _ _
    refine r_mul (by assumption) (IntMulOk.of_left (by decide)) ?_; intro _ _ _; refine SeqQ.ret ?_; refine SeqQ.ret ?_; refine RetQ.ret ?_
    rw [T_len, T_len]
    exact h _ _ (St.out (by assumption))
  | cons x xs =>
  refine Br.neg (by rw [T_len]; simp) ?_
  refine r_or ?_; refine isTrue_not ?_; refine isTrue_plain ?_; refine r_name (by assumption) (by rfl) ?_
  refine r_tstr (by assumption) (by assumption) ?_; intro _ _
  cases b₂ with
  | nil =>
    rw [if_pos (.inr rfl)] at h
    refine Br.pos (by rw [T_len]; rfl) (Br.t ?_)
    refine r_cons ?_; refine wpAny_Return_some ?_; refine wpAny_BinOp ?_; refine r_global (by assumption) (by assumption) (gvMOVECOST _) ?_
    refine wpAny_BinOp ?_; refine Call_ ?_
    refine r_builtin (by assumption) (by assumption) (by rfl) (by first | reg3_boot | boot_fact) (by decide) ?_
    refine PyProof.Rows.callWith_builtin1 ?_; refine args_cons ?_; refine r_name (by assumption) (by rfl) ?_; refine args_nil ?_
    refine r_lenS (by assumption) (by assumption) ?_; intro _ _ _; refine Call_ ?_
    refine r_builtin (by assumption) (by assumption) (by rfl) (by first | reg3_boot | boot_fact) (by decide) ?_
    refine PyProof.Rows.callWith_builtin1 ?_; refine args_cons ?_; refine r_name (by assumption) (by rfl) ?_; refine args_nil ?_
    refine r_lenS (by assumption) (by assumption) ?_; intro _ _ _; refine r_add (by assumption) ?_; intro _ _ _
    refine r_mul (by assumption) (IntMulOk.of_left (by decide)) ?_; intro _ _ _; refine SeqQ.ret ?_; refine SeqQ.ret ?_; refine RetQ.ret ?_
    rw [T_len, T_len]
    exact h _ _ (St.out (by assumption))
  | cons y ys =>
  refine Br.neg (by rw [T_len]; simp) ?_
  refine isTrue_or_nil ?_
  refine Br.f ?_
  refine r_nil ?_; refine SeqQ.go ?_; refine r_cons ?_; refine r_if ?_; refine r_or ?_; refine wpAny_isTrue_Compare1 ?_; refine Call_ ?_
  refine r_builtin (by assumption) (by assumption) (by rfl) (by first | reg3_boot | boot_fact) (by decide) ?_
  refine PyProof.Rows.callWith_builtin1 ?_; refine args_cons ?_; refine r_name (by assumption) (by rfl) ?_; refine args_nil ?_
  refine r_lenS (by assumption) (by assumption) ?_; intro _ _ _; refine r_global (by assumption) (by assumption) (gvMAXSTRINGSIZE _) ?_
  refine PyProof.Rows.gt_int ?_; refine wpAny_truthy_bool ?_
  refine Br.neg (by rw [T_len]; exact decide_eq_false (by (clear hh hr hla hlb hA hB e e' za zb za' zb' za2 zb2 hl2 hlev; omega))) ?_
  refine r_or ?_; refine wpAny_isTrue_Compare1 ?_; refine Call_ ?_
  refine r_builtin (by assumption) (by assumption) (by rfl) (by first | reg3_boot | boot_fact) (by decide) ?_
  refine PyProof.Rows.callWith_builtin1 ?_; refine args_cons ?_; refine r_name (by assumption) (by rfl) ?_; refine args_nil ?_
  refine r_lenS (by assumption) (by assumption) ?_; intro _ _ _; refine r_global (by assumption) (by assumption) (gvMAXSTRINGSIZE _) ?_
  refine PyProof.Rows.gt_int ?_; refine wpAny_truthy_bool ?_
  refine Br.neg (by rw [T_len]; exact decide_eq_false (by (clear hh hr hla hlb hA hB e e' za zb za' zb' za2 hl1 zb2 hlev; omega))) ?_
  refine isTrue_or_nil ?_
  refine Br.f ?_
  rw [if_neg (by simp)] at h
  refine r_nil ?_
  refine SeqQ.go (r_cons (r_ifJ (fun s' => ∃ a b ta tb, St s.gens s.os s.heap L [("a", .str (T a) ta), ("b", .str (T b) tb), ("max_cost", .int c v)] [] s' ∧ a ≠ [] ∧ a.length ≤ b.length ∧ b.length ≤ 40 ∧ (∀ x ∈ a, x < 128) ∧ (∀ x ∈ b, x < 128) ∧
    ∀ t s', Grow s s' → Q (.int (lev2 a b c) t) s') ?_ ?_))
  · --<<5
    refine wpAny_isTrue_Compare1 ?_; refine Call_ ?_
    refine r_builtin (by assumption) (by assumption) (by rfl) (by first | reg3_boot | boot_fact) (by decide) ?_
    refine PyProof.Rows.callWith_builtin1 ?_; refine args_cons ?_; refine r_name (by assumption) (by rfl) ?_; refine args_nil ?_
    refine r_lenS (by assumption) (by assumption) ?_; intro _ _ _; refine Call_ ?_
    refine r_builtin (by assumption) (by assumption) (by rfl) (by first | reg3_boot | boot_fact) (by decide) ?_
    refine PyProof.Rows.callWith_builtin1 ?_; refine args_cons ?_; refine r_name (by assumption) (by rfl) ?_; refine args_nil ?_
    refine r_lenS (by assumption) (by assumption) ?_; intro _ _ _; refine PyProof.Rows.lt_int ?_; refine wpAny_truthy_bool ?_
    rw [T_len, T_len]
    refine Br.split (fun e1 => ?_) (fun e1 => ?_)
    · have e1' : (y :: ys).length < (x :: xs).length := by simpa using e1
      rw [if_pos e1'] at h
      refine r_cons ?_; refine Assign_Tuple_swapped ?_; refine Tuple_ ?_; refine args_cons ?_; refine r_name (by assumption) (by rfl) ?_
      refine args_cons ?_; refine r_name (by assumption) (by rfl) ?_; refine args_nil ?_
      refine r_newTuple (by assumption) (by simp) ?_; intro _ _ _ _
      refine r_unpackItems (by assumption) (by assumption) (.head _) (by rfl) ?_; intro _ _; refine assignInOrder_cons ?_; refine wpAny_bindName ?_
      refine r_store (by assumption) ?_; intro _ _; refine assignInOrder_cons ?_; refine wpAny_bindName ?_
      refine r_store (by assumption) ?_; intro _ _; refine assignInOrder_nil ?_; refine SeqQ.go ?_; refine r_nil ?_
      exact ⟨rfl, _, _, _, _, (St.re0 (by assumption) ⟨rfl, rfl, rfl, trivial⟩ : St s.gens s.os s.heap L [("a", .str (T (y :: ys)) _), ("b", .str (T (x :: xs)) _), ("max_cost", .int c v)] [] _), by simp, by (clear hh hr hla hlb hA hB e e' za zb za' zb' za2 hl1 zb2 hl2 hlev e1; omega), by (clear hh hr hla hlb hA hB e e' za zb za' zb' za2 zb2 hl2 hlev e1 e1'; omega), hc2, hc1, h⟩
    · have e1' : ¬ (y :: ys).length < (x :: xs).length := by simpa using e1
      rw [if_neg e1'] at h
      refine r_nil ?_
      exact ⟨rfl, _, _, _, _, (St.re0 (by assumption) ⟨rfl, rfl, rfl, trivial⟩ : St s.gens s.os s.heap L [("a", .str (T (x :: xs)) _), ("b", .str (T (y :: ys)) _), ("max_cost", .int c v)] [] _), by simp, by (clear hh hr hla hlb hA hB e e' za zb za' zb' za2 hl1 zb2 hl2 hlev e1; omega), by (clear hh hr hla hlb hA hB e e' za zb za' zb' za2 hl1 zb2 hlev e1 e1'; omega), hc1, hc2, h⟩
  clear h ha hb hA hB za zb za' zb' za2 zb2 S9 S' S hc1 hc2
  rintro s' ⟨a, b, ta, tb, S', hne, hab, hlb, ha, hb, h⟩
  have hA : (T a).length ≤ 1000000 := by rw [T_len]; (clear hh hr hla e e' hl1 hl2 hlev hne; omega)
  have hB : (T b).length ≤ 1000000 := by rw [T_len]; (clear hh hr hla e e' hl1 hl2 hlev hne hab hA; omega)
  refine SeqQ.go ?_; refine r_cons ?_; refine r_if ?_; refine wpAny_isTrue_Compare1 ?_; refine wpAny_BinOp ?_; refine wpAny_BinOp ?_
  refine Call_ ?_; refine r_builtin (by assumption) (by assumption) (by rfl) (by first | reg3_boot | boot_fact) (by decide) ?_
  refine PyProof.Rows.callWith_builtin1 ?_; refine args_cons ?_; refine r_name (by assumption) (by rfl) ?_; refine args_nil ?_
  refine r_lenS (by assumption) (by assumption) ?_; intro _ _ _; refine Call_ ?_
  refine r_builtin (by assumption) (by assumption) (by rfl) (by first | reg3_boot | boot_fact) (by decide) ?_
  refine PyProof.Rows.callWith_builtin1 ?_; refine args_cons ?_; refine r_name (by assumption) (by rfl) ?_; refine args_nil ?_
  refine r_lenS (by assumption) (by assumption) ?_; intro _ _ _; refine r_sub (by assumption) ?_; intro _ _ _
  refine r_global (by assumption) (by assumption) (gvMOVECOST _) ?_
  refine r_mul (by assumption) (IntMulOk.of_right (by decide)) ?_; intro _ _ _; refine r_name (by assumption) (by rfl) ?_
  refine PyProof.Rows.gt_int ?_; refine wpAny_truthy_bool ?_
  rw [T_len, T_len]
  refine Br.split (fun e1 => ?_) (fun e1 => ?_)
  · --<<6
    have e1' : c < ((b.length : Int) - a.length) * 2 := by simpa using e1
    refine r_cons ?_; refine wpAny_Return_some ?_; refine wpAny_BinOp ?_; refine r_name (by assumption) (by rfl) ?_
    refine r_int (by assumption) ?_; intro _ _ _; refine r_add (by assumption) ?_; intro _ _ _; refine SeqQ.ret ?_; refine SeqQ.ret ?_
    refine RetQ.ret ?_
    rename_i S7
    have := h ‹_› _ S7.out
    simpa only [lev2, gt_iff_lt, if_pos e1'] using this
  have e1' : ¬ c < ((b.length : Int) - a.length) * 2 := by simpa using e1
  simp only [lev2, gt_iff_lt, if_neg e1'] at h
  refine r_nil ?_; refine SeqQ.go ?_; refine r_cons ?_; refine wpAny_Assign_Name ?_; refine Call_ ?_
  refine r_builtin (by assumption) (by assumption) (by rfl) (by first | reg3_boot | boot_fact) (by decide) ?_
  refine PyProof.Rows.callWith_type1 ?_; refine args_cons ?_; refine Call_ ?_
  refine r_builtin (by assumption) (by assumption) (by rfl) (by first | reg3_boot | boot_fact) (by decide) ?_
  refine PyProof.Rows.callWith_type1 ?_; refine args_cons ?_; refine r_global (by assumption) (by assumption) (gvMOVECOST _) ?_
  refine args_cons ?_; refine wpAny_BinOp ?_; refine r_global (by assumption) (by assumption) (gvMOVECOST _) ?_; refine wpAny_BinOp ?_
  refine Call_ ?_; refine r_builtin (by assumption) (by assumption) (by rfl) (by first | reg3_boot | boot_fact) (by decide) ?_
  refine PyProof.Rows.callWith_builtin1 ?_; refine args_cons ?_; refine r_name (by assumption) (by rfl) ?_; refine args_nil ?_
  refine r_lenS (by assumption) (by assumption) ?_; intro _ _ _; refine r_int (by assumption) ?_; intro _ _ _
  refine r_add (by assumption) ?_; intro _ _ _; refine r_mul (by assumption) (IntMulOk.of_left (by decide)) ?_; intro _ _ _; refine args_cons ?_
  refine r_global (by assumption) (by assumption) (gvMOVECOST _) ?_; refine args_nil ?_
  rw [T_len]
  refine r_range3 (by assumption) (by decide) (PyProof.noPylong_small (by decide)) ?_
  intro r t₁ u₁ v₁ s2 _ S2
  refine args_nil ?_
  refine r_listRange (by assumption) S2 (.head _) (small2 _ (by (clear hh hr hla e e' hl1 hl2 hlev hne hA hB e1 e1'; omega))) (size2 _ (by (clear hh hr hla e e' hl1 hl2 hlev hne hA hB e1 e1'; omega))) (by (clear hh hr hla e e' hl1 hl2 hlev hne hA hB e1 e1'; omega)) ?_
  intro D vs ep s3 hD hvs S3
  have S3 := S3.drop (news' := [(D, listOf vs.toArray ep)]) (fun p hp => by simp at hp; rw [hp]; exact .head _)
  refine r_store (by assumption) ?_; intro _ _; refine SeqQ.go ?_; refine r_cons ?_; refine wpAny_Assign_Name ?_
  refine r_int (by assumption) ?_; intro _ _ _; refine r_store (by assumption) ?_; intro _ _; refine SeqQ.go ?_; refine r_cons ?_
  refine r_for ?_
  refine Call_ ?_; refine r_builtin (by assumption) (by assumption) (by rfl) (by first | reg3_boot | boot_fact) (by decide) ?_
  refine PyProof.Rows.callWith_type1 ?_; refine args_cons ?_; refine Call_ ?_
  refine r_builtin (by assumption) (by assumption) (by rfl) (by first | reg3_boot | boot_fact) (by decide) ?_
  refine PyProof.Rows.callWith_builtin1 ?_; refine args_cons ?_; refine r_name (by assumption) (by rfl) ?_; refine args_nil ?_
  refine r_lenS (by assumption) (by assumption) ?_; intro _ _ _; refine args_nil ?_; refine r_range1 (by assumption) ?_; intro _ _ _ _ _ _ _
  rename_i S4
  rw [T_len] at S4
  refine r_iterRange1 (by assumption) (by (clear hh hr hla e e' hl1 hl2 hlev hne hab hA hB e1 e1'; omega)) (by assumption) ?_
  intro it s5 hit S5
  have hDit : D < it := hit _ (.head _)
  refine ForQ.of (fun n s' => ∃ (pre bs : List Nat) (row : List Int) (vs : List Value) (ep : Nat) (res : Int) (t1 t2 t3 : Tok), St s.gens s.os s.heap L [("result", .int res t1), ("row", .ref D), ("a", .str (T a) ta), ("b", .str (T b) tb), ("max_cost", .int c v)]
      [(it, rangeIt (pre.length : Int) ((b.length : Int) - pre.length) 1), (D, listOf vs.toArray ep)] s' ∧ IntsAre vs row ∧ row.length = a.length ∧ b = pre ++ bs ∧
      outr a c b ((List.range a.length).map fun (i : Nat) => 2 + (i : Int) * 2) 0 0 = outr a c bs row pre.length res ∧ n = bs.length)
    (fun s' => ∃ (res : Int) (t1 : Tok), St s.gens s.os s.heap L [("result", .int res t1)] [] s' ∧ outr a c b ((List.range a.length).map fun (i : Nat) => 2 + (i : Int) * 2) 0 0 = res)
    b.length ⟨[], b, _, vs, ep, 0, _, 0, 0, (by
      have e : ((b.length : Int) - ([] : List Nat).length) = b.length := by simp
      rw [e]
      exact St.re S5 ⟨rfl, rfl, rfl, rfl, rfl, trivial⟩), hvs, by simp [rangeInts], rfl, rfl, rfl⟩ ?_ ?_
  · rintro n Tv Xv hTv hXv s' ⟨pre, bs, row, vs, ep, res, t1, t2, t3, S6, hvs, hrl, hpre, heq, rfl⟩
    refine r_nextRange (by assumption) S6 (fun p hp => by rcases List.mem_singleton.mp hp with rfl; exact Nat.ne_of_lt hDit) ?_ ?_
    · intro hlt t4 s7 S7
      cases bs with
      | nil => exfalso; rw [hpre] at hlt; simp at hlt
      | cons c0 cs =>
      have hc0 : c0 < 128 := hb _ (by rw [hpre]; simp)
      have lpre : pre.length < b.length := by rw [hpre]; simp
      refine r_letName ?_; refine r_assign (by assumption) ?_; intro _ _; refine r_cons ?_; refine wpAny_Assign_Name ?_; refine Subscript_ ?_
      refine r_name (by assumption) (by rfl) ?_; refine r_name (by assumption) (by rfl) ?_
      refine r_itemS (by assumption) hB (by (clear hh hr hla e e' hl1 hl2 hlev hne hab hlb hA e1 e1' hDit hrl hlt hpre heq hc0 lpre; omega)) (by rw [T_len]; (clear hh hr hla e e' hl1 hl2 hlev hne hab hlb hA hB e1 e1' hDit hrl hpre heq hc0 lpre; omega)) ?_
      intro t5 s8 S8
      have ib : Txt.item (T b) (pre.length : Int) = T [c0] := by rw [T_item b _ lpre]; simp [hpre]
      rw [ib]
      refine r_store (by assumption) ?_; intro _ _; refine SeqQ.go ?_; refine r_cons ?_; refine wpAny_Assign_two ?_; refine wpAny_BinOp ?_
      refine r_name (by assumption) (by rfl) ?_; refine r_global (by assumption) (by assumption) (gvMOVECOST _) ?_
      refine r_mul (by assumption) (IntMulOk.of_right (by decide)) ?_; intro _ _ _; refine r_assign (by assumption) ?_; intro _ _
      refine r_assign (by assumption) ?_; intro _ _; refine SeqQ.go ?_; refine r_cons ?_; refine wpAny_Assign_Name ?_
      refine r_int (by assumption) ?_; intro _ _ _; refine r_store (by assumption) ?_; intro _ _; refine SeqQ.go ?_; refine r_cons ?_
      refine r_for ?_
      refine Call_ ?_; refine r_builtin (by assumption) (by assumption) (by rfl) (by first | reg3_boot | boot_fact) (by decide) ?_
      refine PyProof.Rows.callWith_type1 ?_; refine args_cons ?_; refine Call_ ?_
      refine r_builtin (by assumption) (by assumption) (by rfl) (by first | reg3_boot | boot_fact) (by decide) ?_
      refine PyProof.Rows.callWith_builtin1 ?_; refine args_cons ?_; refine r_name (by assumption) (by rfl) ?_; refine args_nil ?_
      refine r_lenS (by assumption) (by assumption) ?_; intro _ _ _; refine args_nil ?_; refine r_range1 (by assumption) ?_; intro _ _ _ _ _ _ _
      rename_i r2 u1 u2 u3 s9 hr2 S9
      rw [T_len] at S9
      refine r_iterRange1 S9 (by (clear hh hr hla e e' hl1 hl2 hlev hne hA hB e1 e1' hDit hlt hpre heq hc0 lpre ib; omega)) hr2 ?_
      intro it2 s10 hit2 S10
      have hDit2 : D < it2 := hit2 _ (.tail _ (.head _))
      have hitit2 : it < it2 := hit2 _ (.head _)
      refine ForQ.of (fun n s' => ∃ (ap xs : List Nat) (don rs : List Int) (vs : List Value) (ep : Nat) (d res m : Int) (t1 t2 t3 t4 t5 : Tok), St s.gens s.os s.heap L [("distance", .int d t1), ("result", .int res t2), ("minimum", .int m t3), ("bchar", .str (T [c0]) t4), ("row", .ref D), ("a", .str (T a) ta), ("b", .str (T b) tb), ("max_cost", .int c v)]
          [(it2, rangeIt (ap.length : Int) ((a.length : Int) - ap.length) 1), (it, rangeIt (pre.length + 1 : Int) ((b.length : Int) - pre.length - 1) 1), (D, listOf vs.toArray ep)] s' ∧ IntsAre vs (don ++ rs) ∧ a = ap ++ xs ∧ don.length = ap.length ∧ rs.length = xs.length ∧
          inn c0 a row ((pre.length : Int) * 2) ((pre.length : Int) * 2) 9223372036854775807 = (don ++ (inn c0 xs rs d res m).1, (inn c0 xs rs d res m).2) ∧ n = xs.length)
        (fun s' => ∃ (row' : List Int) (vs : List Value) (ep : Nat) (res m : Int) (t1 t2 : Tok), St s.gens s.os s.heap L [("result", .int res t1), ("minimum", .int m t2), ("row", .ref D), ("a", .str (T a) ta), ("b", .str (T b) tb), ("max_cost", .int c v)]
          [(it, rangeIt (pre.length + 1 : Int) ((b.length : Int) - pre.length - 1) 1), (D, listOf vs.toArray ep)] s' ∧ IntsAre vs row' ∧ inn c0 a row ((pre.length : Int) * 2) ((pre.length : Int) * 2) 9223372036854775807 = (row', res, m) ∧ row'.length = a.length)
        a.length ⟨[], a, [], row, vs, ep, _, _, _, _, _, _, _, 0, (by
          have e : ((a.length : Int) - ([] : List Nat).length) = a.length := by simp
          rw [e]
          exact St.re S10 ⟨rfl, rfl, rfl, rfl, rfl, rfl, rfl, rfl, trivial⟩), by simpa using hvs, rfl, rfl, hrl, by simp, rfl⟩ ?_ ?_
      · rintro n Tw Xw hTw hXw s' ⟨ap, xs, don, rs, vs, ep, d, res, m, u1, u2, u3, u4, u5, S11, hvs, hap, hdl, hrs, hinn, rfl⟩
        refine r_nextRange (by assumption) S11 (fun p hp => by
          rcases List.mem_cons.mp hp with rfl | hp
          · exact Nat.ne_of_lt hitit2
          · rcases List.mem_singleton.mp hp with rfl; exact Nat.ne_of_lt hDit2) ?_ ?_
        · intro hlt t4 s7 S7
          cases xs with
          | nil => exfalso; rw [hap] at hlt; simp at hlt
          | cons x0 xs =>
          cases rs with
          | nil => simp at hrs
          | cons r0 rs =>
          have hx0 : x0 < 128 := ha _ (by rw [hap]; simp)
          have lap : ap.length < a.length := by rw [hap]; simp
          refine r_letName ?_; refine r_assign (by assumption) ?_; intro _ _; refine r_cons ?_; refine wpAny_Assign_Name ?_; refine wpAny_BinOp ?_
          refine r_name (by assumption) (by rfl) ?_; refine Call_ ?_; refine r_global (by assumption) (by assumption) (gvsubstitutioncost _) ?_
          refine r_callK (by assumption) (by assumption) (by rfl) ?_; refine args_cons ?_; refine r_name (by assumption) (by rfl) ?_
          refine args_cons ?_; refine Subscript_ ?_; refine r_name (by assumption) (by rfl) ?_; refine r_name (by assumption) (by rfl) ?_
          refine r_itemS (by assumption) hA (by (clear hh hr hla e e' hl1 hl2 hlev hne hab hlb hB e1 e1' hDit hrl hpre heq hc0 lpre ib hDit2 hitit2 hlt hap hrs hinn hx0 lap; omega)) (by rw [T_len]; (clear hh hr hla e e' hl1 hl2 hlev hne hab hlb hA hB e1 e1' hDit hpre heq hc0 lpre ib hDit2 hitit2 hdl hap hrs hinn hx0 lap; omega)) ?_
          intro t5 s8 S8
          have ia : Txt.item (T a) (ap.length : Int) = T [x0] := by rw [T_item a _ lap]; simp [hap]
          rw [ia]
          refine args_nil ?_; refine k_and (by assumption) (by assumption) ?_
          have q1 : A.depth + 1 < recursionLimit := by (clear hh hla e e' hl1 hl2 hlev hne hab hlb hA hB e1 e1' hDit hrl hpre heq hc0 lpre ib hDit2 hitit2 hdl hlt hap hrs hinn hx0 lap ia; omega)
          refine sub_spec ?_ ?_ hc0 hx0 ?_
          · exact St.base (by assumption) B
          · exact q1
          intro t6 s9 G9
          have S9 := St.after (by assumption) G9
          refine r_add (by assumption) ?_; intro _ _ _; refine r_store (by assumption) ?_; intro _ _; refine SeqQ.go ?_; refine r_cons ?_
          refine wpAny_Assign_Name ?_; refine Subscript_ ?_; refine r_name (by assumption) (by rfl) ?_; refine r_name (by assumption) (by rfl) ?_
          have hk : ((ap.length : Nat) : Int).toNat = ap.length := Int.toNat_natCast _
          refine r_itemI (by assumption) (.tail _ (.tail _ (.head _))) hvs (by (clear hh hr hla e e' hl1 hl2 hlev hne hab hlb hA hB e1 e1' hDit hrl hpre heq hc0 lpre ib hDit2 hitit2 hlt hap hrs hinn hx0 lap ia q1; omega)) (by simp; (clear hh hr hla e e' hl1 hl2 hlev hne hab hlb hA hB e1 e1' hDit hrl hpre heq hc0 lpre ib hDit2 hitit2 hlt hap hrs hinn hx0 lap ia q1 hk; omega)) (by (clear hh hr hla e e' hl1 hl2 hlev hne hA hB e1 e1' hDit hpre heq hc0 lpre ib hDit2 hitit2 hdl hap hrs hinn hx0 lap ia q1; omega)) ?_
          intro t7
          have hget : (don ++ r0 :: rs).getD ((ap.length : Nat) : Int).toNat 0 = r0 := by rw [hk, ← hdl]; simp
          rw [hget]
          refine r_store (by assumption) ?_; intro _ _; refine SeqQ.go ?_; refine r_cons ?_; refine wpAny_Assign_Name ?_; refine wpAny_BinOp ?_
          refine Call_ ?_; refine r_builtin (by assumption) (by assumption) (by rfl) (by first | reg3_boot | boot_fact) (by decide) ?_
          refine PyProof.Rows.callWith_builtin1 ?_; refine args_cons ?_; refine r_name (by assumption) (by rfl) ?_; refine args_cons ?_
          refine r_name (by assumption) (by rfl) ?_; refine args_nil ?_; refine r_min (by assumption) (by assumption) ?_; intro _ _ _
          refine r_global (by assumption) (by assumption) (gvMOVECOST _) ?_; refine r_add (by assumption) ?_; intro _ _ _
          refine r_store (by assumption) ?_; intro _ _; refine SeqQ.go ?_; refine r_cons ?_; refine wpAny_Assign_Name ?_; refine Call_ ?_
          refine r_builtin (by assumption) (by assumption) (by rfl) (by first | reg3_boot | boot_fact) (by decide) ?_
          refine PyProof.Rows.callWith_builtin1 ?_; refine args_cons ?_; refine r_name (by assumption) (by rfl) ?_; refine args_cons ?_
          refine r_name (by assumption) (by rfl) ?_; refine args_nil ?_; refine r_min (by assumption) (by assumption) ?_; intro _ _ _
          refine r_store (by assumption) ?_; intro _ _; refine SeqQ.go ?_; refine r_cons ?_; refine wpAny_Assign_Subscript ?_
          refine r_name (by assumption) (by rfl) ?_; refine r_name (by assumption) (by rfl) ?_; refine r_name (by assumption) (by rfl) ?_
          rename_i s19 S19
          have q2 : (ap.length : Int) < ((don ++ r0 :: rs).length : Int) := by rw [← hdl, List.length_append, List.length_cons]; (clear hh hr hla e e' hl1 hl2 hlev hne hab hlb hA hB e1 e1' hDit hrl hpre heq hc0 lpre ib hDit2 hitit2 hdl hlt hap hrs hinn hx0 lap ia q1 hk hget; omega)
          refine r_setItem3 S19 hvs (Nat.ne_of_gt hDit2) (Nat.ne_of_gt hDit) (Int.natCast_nonneg _) q2 (by (clear hh hr hla e e' hl1 hl2 hlev hne hA hB e1 e1' hDit hpre heq hc0 lpre ib hDit2 hitit2 hdl hap hrs hinn hx0 lap ia q1 hget q2; omega)) ?_
          intro s20 hvs' S20
          have hset : (don ++ r0 :: rs).set ((ap.length : Nat) : Int).toNat (min2 (min2 res r0 + 2) (d + subC c0 x0)) = (don ++ [min2 (min2 res r0 + 2) (d + subC c0 x0)]) ++ rs := by
            rw [hk, ← hdl, List.set_append_right _ _ (Nat.le_refl _)]; simp
          have hvs'' : IntsAre _ ((don ++ [min2 (min2 res r0 + 2) (d + subC c0 x0)]) ++ rs) := hset ▸ hvs'
          have e9 : ((ap ++ [x0]).length : Int) = ap.length + 1 := by simp
          have e8 : (a.length : Int) - ((ap ++ [x0]).length : Int) = (a.length : Int) - ap.length - 1 := by simp; (clear hh hr hla e e' hl1 hl2 hlev hne hab hlb hA hB e1 e1' hDit hrl hpre heq hc0 lpre ib hDit2 hitit2 hdl hlt hap hrs hinn hx0 lap ia q1 hk hget q2 hset e9; omega)
          have hinn' := hinn
          rw [inn] at hinn'
          refine SeqQ.go ?_; refine r_cons ?_; refine r_if ?_; refine wpAny_isTrue_Compare1 ?_; refine r_name (by assumption) (by rfl) ?_
          refine r_name (by assumption) (by rfl) ?_; refine PyProof.Rows.lt_int ?_; refine wpAny_truthy_bool ?_
          refine Br.split (fun e2 => ?_) (fun e2 => ?_)
          · have e2' : min2 (min2 res r0 + 2) (d + subC c0 x0) < m := of_decide_eq_true e2
            refine r_cons ?_; refine wpAny_Assign_Name ?_; refine r_name (by assumption) (by rfl) ?_; refine r_store (by assumption) ?_; intro _ _
            refine SeqQ.go ?_; refine r_nil ?_; refine SeqQ.go ?_; refine r_nil ?_
            rename_i s30 S30
            have S31 := St.re (l' := [("distance", _), ("result", _), ("minimum", _), ("bchar", _), ("row", _), ("a", _), ("b", _), ("max_cost", _)]) S30 ⟨rfl, rfl, rfl, rfl, rfl, rfl, rfl, rfl, trivial⟩
            have e7 : a = (ap ++ [x0]) ++ xs := by rw [hap]; simp
            have e6 : (don ++ [min2 (min2 res r0 + 2) (d + subC c0 x0)]).length = (ap ++ [x0]).length := by simp [hdl]
            have e5 : rs.length = xs.length := by simpa using hrs
            rw [← e8, ← e9] at S31
            refine hTw _ _ ⟨xs.length, Nat.lt_succ_self _, ap ++ [x0], xs, _, rs, _, _, _, _, _, _, _, _, _, 0, S31, hvs'', e7, e6, e5, ?_, rfl⟩
            rw [hinn']; simp only [if_pos e2', List.append_assoc, List.cons_append, List.nil_append]; rfl
          · have e2' : ¬ min2 (min2 res r0 + 2) (d + subC c0 x0) < m := of_decide_eq_false e2
            refine r_nil ?_; refine SeqQ.go ?_; refine r_nil ?_
            have S30 := S20
            have S31 := St.re (l' := [("distance", _), ("result", _), ("minimum", _), ("bchar", _), ("row", _), ("a", _), ("b", _), ("max_cost", _)]) S30 ⟨rfl, rfl, rfl, rfl, rfl, rfl, rfl, rfl, trivial⟩
            have e7 : a = (ap ++ [x0]) ++ xs := by rw [hap]; simp
            have e6 : (don ++ [min2 (min2 res r0 + 2) (d + subC c0 x0)]).length = (ap ++ [x0]).length := by simp [hdl]
            have e5 : rs.length = xs.length := by simpa using hrs
            rw [← e8, ← e9] at S31
            refine hTw _ _ ⟨xs.length, Nat.lt_succ_self _, ap ++ [x0], xs, _, rs, _, _, _, _, m, _, _, _, _, 0, S31, hvs'', e7, e6, e5, ?_, rfl⟩
            rw [hinn']; simp only [if_neg e2', List.append_assoc, List.cons_append, List.nil_append]; rfl
        · intro hle s7 S7
          have hxs : xs = [] := by
            cases xs with
            | nil => rfl
            | cons c0 cs => exfalso; rw [hap] at hle; simp at hle; (clear hh hr hla e e' hl1 hl2 hlev hne hab hlb hA hB e1 e1' hDit hrl hlt hpre heq hc0 lpre ib hDit2 hitit2 hdl hap hrs hinn; omega)
          subst hxs
          have hrs0 : rs = [] := List.length_eq_zero_iff.mp hrs
          subst hrs0
          refine hXw _ ⟨don, vs, ep, res, m, _, _, St.re S7 ⟨rfl, rfl, rfl, rfl, rfl, rfl, trivial⟩, by simpa using hvs, by rw [hinn]; simp [inn], by rw [hdl, hap]; simp⟩
      rintro s' ⟨row', vs, ep, res, m, u1, u2, S12, hvs, hinn, hrl'⟩
      refine SeqQ.go ?_; refine r_cons ?_; refine r_if ?_; refine wpAny_isTrue_Compare1 ?_; refine r_name (by assumption) (by rfl) ?_
      refine r_name (by assumption) (by rfl) ?_; refine PyProof.Rows.gt_int ?_; refine wpAny_truthy_bool ?_
      have hout : outr a c b ((List.range a.length).map fun (i : Nat) => 2 + (i : Int) * 2) 0 0 = if c < m then c + 1 else outr a c cs row' (pre.length + 1) res := by
        rw [heq, outr]; simp only [hinn]
      refine Br.split (fun e2 => ?_) (fun e2 => ?_)
      · have e2' : c < m := by simpa using e2
        rw [if_pos e2'] at hout
        refine r_cons ?_; refine wpAny_Return_some ?_; refine wpAny_BinOp ?_; refine r_name (by assumption) (by rfl) ?_
        refine r_int (by assumption) ?_; intro _ _ _; refine r_add (by assumption) ?_; intro _ _ _; refine SeqQ.ret ?_; refine SeqQ.ret ?_
        rw [hout] at h
        exact hTv _ _ (h _ _ (St.out (by assumption)))
      · have e2' : ¬ c < m := by simpa using e2
        rw [if_neg e2'] at hout
        refine r_nil ?_; refine SeqQ.go ?_; refine r_nil ?_
        have e9 : ((pre ++ [c0]).length : Int) = pre.length + 1 := by simp
        have e8 : (b.length : Int) - ((pre ++ [c0]).length : Int) = (b.length : Int) - pre.length - 1 := by simp; (clear hh hr hla e e' hl1 hl2 hlev hne hab hlb hA hB e1 e1' hDit hrl hlt hpre heq hc0 lpre ib hDit2 hitit2 hinn hrl' hout e2 e2' e9; omega)
        refine hTv _ _ ⟨cs.length, Nat.lt_succ_self _, pre ++ [c0], cs, row', vs, ep, res, _, 0, 0, (by rw [e8, e9]; exact St.re (by assumption) ⟨rfl, rfl, rfl, rfl, rfl, trivial⟩), hvs, hrl', by rw [hpre]; simp, by rw [hout, e9], rfl⟩
    · intro hle s7 S7
      have hbs : bs = [] := by
        cases bs with
        | nil => rfl
        | cons c0 cs => exfalso; rw [hpre] at hle; simp at hle; (clear hh hr hla e e' hl1 hl2 hlev hne hab hlb hA hB e1 e1' hDit hrl hpre heq; omega)
      subst hbs
      exact hXv _ ⟨res, t1, St.re0 S7 ⟨rfl, trivial⟩, by rw [heq]; rfl⟩
  rintro s' ⟨res, t1, S6, he⟩
  refine SeqQ.go ?_; refine r_cons ?_; refine wpAny_Return_some ?_; refine r_name (by assumption) (by rfl) ?_; refine SeqQ.ret ?_
  refine RetQ.ret ?_
  rw [he] at h
  exact h _ _ (St.out (by assumption))
end
end Mine
end
section
open PySem PySem.W PyProof.Rows PySem.Calls
set_option Elab.async false
set_option maxRecDepth 100000
set_option maxHeartbeats 1000000
set_option linter.unusedVariables false
namespace Mine
/-- a frame's own object -/
noncomputable def FrObj (o : Obj) (l : List (Str × Value)) : Prop := ∃ es ep m, o.data = .dict es ep ∧ StrKeys es ∧ (∀ name, nsFind es name = m name) ∧ Has m l
section
variable {g : Array GenState} {os : OsState} {h₀ h' : Heap} {L C : Addr} {l l' : List (Str × Value)} {news news' : List (Addr × Obj)} {s : Shared} {oL oC : Obj}
theorem St.obj (S : St g os h₀ L l news s) : ∃ oL, s.heap.get? L = some oL ∧ FrObj oL l :=
  let ⟨m, F, H⟩ := S.fr; let ⟨o, es, ep, ho, hd, hk, hm⟩ := F.ns; ⟨o, ho, es, ep, m, hd, hk, hm, H⟩
theorem St.fresh (S : St g os h₀ L l news s) {a : Addr} (ha : h₀.objs.size ≤ a) : h₀.get? a = none := by
  cases e : h₀.get? a with
  | none => rfl
  | some o => exact absurd (Heap.lt_size e) (Nat.not_lt.mpr ha)
theorem St.mk' (keep : ∀ b o, h₀.get? b = some o → s.heap.get? b = some o) (above : h₀.objs.size ≤ L) (hL : s.heap.get? L = some oL) (hf : FrObj oL l) (nw : ∀ p ∈ news, s.heap.get? p.1 = some p.2 ∧ p.1 ≠ L ∧ h₀.get? p.1 = none)
    (hg : s.gens = g) (ho : s.os = os) : St g os h₀ L l news s :=
  let ⟨es, ep, m, hd, hk, hm, H⟩ := hf; ⟨⟨m, ⟨⟨oL, es, ep, hL, hd, hk, hm⟩, keep, above⟩, H⟩, nw, hg, ho⟩
/-- a new frame is entered: the elder frame becomes an object -/
theorem St.enter (S : St g os h₀ L l news s) (hL : s.heap.get? L = some oL) {ob : Obj} {t : Nat} {m : Str → Option Value} (hC : C = s.heap.objs.size) (hn : h'.Ns C m) (hs : Heap.SameBut C (s.heap.push ob) h') (H : Has m l') :
    St g os h₀ C l' ((L, oL) :: news) { s with heap := h', toks := t } := by
  subst hC
  have old : ∀ b o, s.heap.get? b = some o → h'.get? b = some o := fun b o e => hs.extBut b o (Nat.ne_of_lt (Heap.lt_size e)) (Heap.get?_push_of_some _ e)
  refine ⟨⟨m, ⟨hn, fun b o e => old b o (S.keep b o e), Nat.le_trans S.above (Nat.le_of_lt S.Llt)⟩, H⟩, fun p hp => ?_, S.gens, S.os⟩
  rcases List.mem_cons.mp hp with rfl | hp
  · exact ⟨old _ _ hL, Nat.ne_of_lt S.Llt, S.fresh S.above⟩
  · exact ⟨old _ _ (S.nw p hp).1, Nat.ne_of_lt (S.lt hp), (S.nw p hp).2.2⟩
/-- .. and left again -/
theorem St.swap (S : St g os h₀ C l' news s) (hm : (L, oL) ∈ news) (hf : FrObj oL l) (hab : h₀.objs.size ≤ L) (hsub : ∀ p ∈ news', p ∈ news ∧ p.1 ≠ L) :
    ∃ oC, FrObj oC l' ∧ St g os h₀ L l ((C, oC) :: news') s := by
  obtain ⟨oC, hC, hfC⟩ := S.obj
  refine ⟨oC, hfC, St.mk' S.keep hab (S.nw _ hm).1 hf (fun p hp => ?_) S.gens S.os⟩
  rcases List.mem_cons.mp hp with rfl | hp
  · exact ⟨hC, (S.nw _ hm).2.1.symm, S.fresh S.above⟩
  · obtain ⟨h1, h2⟩ := hsub p hp
    exact ⟨(S.nw p h1).1, h2, (S.nw p h1).2.2⟩
end
section
variable {prog : Program} {w : World} {A : Around} {s : Shared} {env : Env}
/-- what is wanted of a comprehension's loop -/
noncomputable def CompQ (prog : Program) (w : World) (A : Around) (env : Env) (scope : Scope) (cl : List (Str × Addr)) (x : Str) (px : Pos) (ifs : List Expr) (elt : Expr)
    (Fin : Array GenState → OsState → Heap → List (Str × Value) → Addr → Addr → Array Value → Nat → List (Addr × Obj) → Prop) (it : Value) (s₂ : Shared) : Prop :=
  ∃ g os h₀ l news, St g os h₀ env.locals l news s₂ ∧ ∀ C D oL s₃, FrObj oL l → (∀ p ∈ news, p.1 < D) → env.locals < D → D < C → St g os h₀ C [] ((env.locals, oL) :: (D, listOf #[] 0) :: news) s₃ →
    ∃ (I : Nat → Shared → Prop) (n : Nat), I n s₃ ∧ (∀ Q' : Value → Shared → Prop, Q' it s₃ → wpAny (model prog w) A (pyIter it) Q' NoE s₃) ∧ ∀ n s, I n s → wpAny (model prog w) A (pyNext it) (fun r s₁ => match r with
      | none => ∃ l' ys ep news', St g os h₀ C l' ((env.locals, oL) :: (D, listOf ys ep) :: news') s₁ ∧ (∀ p ∈ news', p ∈ news) ∧ Fin g os h₀ l C D ys ep news'
      | some v => wpAny (model prog w) A (assign (.Name x px) (compEnvC scope cl C env) v) (fun _ s₂ =>
          wpAny (model prog w) A (forIn ifs true fun c r => if r = true then do let ok ← isTrue c (compEnvC scope cl C env) (eval c (compEnvC scope cl C env)); pure (ForInStep.yield ok) else pure (ForInStep.yield r)) (fun ok s₃ =>
            if ok = true then wpAny (model prog w) A (eval elt (compEnvC scope cl C env)) (fun y s₄ => wpAny (model prog w) A (call (.builtin "list.append") [.ref D, y]) (fun _ s₅ => ∃ m, m < n ∧ I m s₅) NoE s₄) NoE s₃
            else ∃ m, m < n ∧ I m s₃) NoE s₂) NoE s₁) NoE s
theorem comp_core {x : Str} {px : Pos} {elt iter : Expr} {ifs : List Expr} {scope : Scope} {cl : List (Str × Addr)} {pos ipos : Pos} {use : Option (Value → Sem Unit)} {Q : Value → Shared → Prop}
    {Fin : Array GenState → OsState → Heap → List (Str × Value) → Addr → Addr → Array Value → Nat → List (Addr × Obj) → Prop}
    (hclos : closureFor scope env = pure cl) (hcell : ∀ y ∈ scope.names, y.2 ≠ .cell) (hkind : scope.kind = .function)
    (hnames : ∀ y ∈ scope.names, y.2 = .local → scope.names.lookup y.1 = some .local)
    (hs : ∀ x, foldedSetIterable iter env x = pure x)
    (h : wpAny (model prog w) A (eval iter env) (fun xv s₁ => wpAny (model prog w) A (pyIter xv) (CompQ prog w A env scope cl x px ifs elt Fin) NoE s₁) NoE s)
    (hfin : ∀ g os h₀ l C D ys ep news' oL l' s', Fin g os h₀ l C D ys ep news' → FrObj oL l → h₀.objs.size ≤ env.locals → (∀ p ∈ news', p.1 ≠ env.locals) → D ≠ env.locals → (∀ p ∈ news', p.1 ≠ C) → D ≠ C →
      St g os h₀ C l' ((env.locals, oL) :: (D, listOf ys ep) :: news') s' → compPost (model prog w) A NoE use Q (.ref D) C (.ok .next) s') :
    wpAny (model prog w) A (comprehension (.ListComp elt [⟨.Name x px, iter, ifs, 0⟩] scope pos) scope env ipos (newList []) false (eval iter env) use) Q NoE s := by
  refine wpAny_comprehension_free rfl hs hclos hkind hnames (wpAny_mono h (fun xv s₁ h₁ => wpAny_mono h₁ (fun it s₂ h₂ => ?_) fun _ _ e => e.elim) fun _ _ e => e.elim)
  obtain ⟨g, os, h₀, l, news, S, hC⟩ := h₂
  refine wpAny_newObj_type (hd := by size_fits) ?_
  have S1 := S.push (listOf #[] 0) s₂.toks
  refine wpAny_newFunctionEnv hcell (fun y hy => by cases hy) (fun h' hn hs' => ?_) hkind
  obtain ⟨oL, hoL, hfL⟩ := S1.obj
  have S2 := S1.enter (t := s₂.toks + ([] : List (Str × Value)).length) (l' := []) hoL rfl hn hs' Has.nil
  have hDC : s₂.heap.objs.size < (s₂.heap.push (listOf #[] 0)).objs.size := by rw [Heap.size_push]; exact Nat.lt_succ_self _
  obtain ⟨I, n, hI, hiter, turn⟩ := hC _ _ oL _ hfL (fun p hp => S.lt hp) S.Llt hDC S2
  have hne : ∀ p ∈ news, p.1 ≠ env.locals := fun p hp => (S.nw p hp).2.1
  have hneC : ∀ p ∈ news, p.1 ≠ (s₂.heap.push (listOf #[] 0)).objs.size := fun p hp => Nat.ne_of_lt (Nat.lt_trans (S.lt hp) hDC)
  have loop := codeAny_compLoop_tests (prog := prog) (w := w) (A := A) (target := .Name x px) (iter := iter) (scope := scope) (pos := pos) (elt := elt) (ifs := ifs)
    (R := compPost (model prog w) A NoE use Q (.ref s₂.heap.objs.size) (s₂.heap.push (listOf #[] 0)).objs.size) I (fun n s hI => by
      refine wpAny_mono (turn n s hI) (fun r s₁ h₁ => ?_) fun _ _ e => e.elim
      cases r with
      | none =>
        obtain ⟨l', ys, ep, news', S', hsub, hF⟩ := h₁
        exact hfin g os h₀ l _ _ ys ep news' oL l' s₁ hF hfL S.above (fun p hp => hne p (hsub p hp)) (Nat.ne_of_gt S.Llt) (fun p hp => hneC p (hsub p hp)) (Nat.ne_of_lt hDC) S'
      | some v =>
        refine wpAny_mono h₁ (fun _ s₂ h₂ => ?_) fun _ _ e => e.elim
        refine wpAny_mono h₂ (fun ok s₃ h₃ => ?_) fun _ _ e => e.elim
        cases ok with
        | false => exact h₃
        | true => exact wpAny_mono h₃ (fun y s₄ h₄ => wpAny_mono h₄ (fun _ _ x => x) fun _ _ e => e.elim) fun _ _ e => e.elim) n hI
  exact codeAny_compStart_list loop (wpAny_mono (hiter _ loop) (fun _ _ x => x) fun _ _ e => e.elim)
/-- a comprehension as a value -/
theorem r_comp {x : Str} {px : Pos} {elt iter : Expr} {ifs : List Expr} {scope : Scope} {cl : List (Str × Addr)} {pos : Pos} {Q : Value → Shared → Prop}
    (hclos : closureFor scope env = pure cl) (hcell : ∀ y ∈ scope.names, y.2 ≠ .cell) (hkind : scope.kind = .function)
    (hnames : ∀ y ∈ scope.names, y.2 = .local → scope.names.lookup y.1 = some .local)
    (hs : ∀ x, foldedSetIterable iter env x = pure x)
    (h : wpAny (model prog w) A (eval iter env) (fun xv s₁ => wpAny (model prog w) A (pyIter xv) (CompQ prog w A env scope cl x px ifs elt
      (fun g os h₀ l C D ys ep news' => ∀ s', St g os h₀ env.locals l ((D, listOf ys ep) :: news') s' → Q (.ref D) s')) NoE s₁) NoE s) :
    wpAny (model prog w) A (eval (.ListComp elt [⟨.Name x px, iter, ifs, 0⟩] scope pos) env) Q NoE s := by
  rw [eval_ListComp]
  refine comp_core (use := none) hclos hcell hkind hnames hs h fun g os h₀ l C D ys ep news' oL l' s' hF hf hab hne hD hneC hDC S => ?_
  obtain ⟨m, F, H⟩ := S.fr
  refine ⟨m, F.ns, fun h'' hs'' => ?_⟩
  obtain ⟨oC, hfC, S'⟩ := S.swap (news' := (D, listOf ys ep) :: news') (.head _) hf hab (fun p hp => ⟨.tail _ hp, by
    rcases List.mem_cons.mp hp with rfl | hp
    · exact hD
    · exact hne p hp⟩)
  refine hF _ (S'.lose (fun p hp => ?_) hs''.extBut s'.toks)
  rcases List.mem_cons.mp hp with rfl | hp
  · exact hDC
  · exact hneC p hp
end
/-- the names that a map knows, row by row -/
noncomputable def SubM (m : Str → Option Value) : List (Str × Value) → Prop
  | [] => True
  | (x, v) :: r => m x = some v ∧ SubM m r
theorem SubM.has {m : Str → Option Value} : ∀ {l : List (Str × Value)}, SubM m l → Has m l
  | [], _, _, _, h => by cases h
  | (y, u) :: r, ⟨a, b⟩, x, v, h => by
    rw [List.lookup_cons] at h
    split at h
    · rename_i q
      cases h
      rw [eq_of_beq q]
      exact a
    · exact SubM.has b x v h
section
variable {prog : Program} {w : World} {A : Around} {E : Value → Shared → Prop} {s : Shared} {g : Array GenState} {os : OsState} {h₀ : Heap} {L c : Addr} {l : List (Str × Value)} {news news' : List (Addr × Obj)} {env : Env} {o : Obj}
theorem r_nameE {x : Str} {pos : Pos} {v : Value} {Q : Value → Shared → Prop} (S : St g os h₀ env.locals l news s) (hv : l.lookup x = some v) (h : Q v s)
    (hk : env.scope.kind = .function := by rfl) (hl : env.kindOf x = some .local := by rfl) (hd : (x == ("__debug__" : Str)) = false := by decide) :
    wpAny (model prog w) A (eval (.Name x pos) env) Q E s := let ⟨_, F, H⟩ := S.fr; wpAny_Name (wpAny_loadName_local hk hl F.ns (H x v hv) h) hd
theorem r_cellE {x : Str} {pos : Pos} {v : Value} {Q : Value → Shared → Prop} (S : St g os h₀ L l news s) (hc : env.cells.lookup x = some c) (hm : (c, o) ∈ news) (ho : o.data = .cell (some v)) (h : Q v s)
    (hk : env.scope.kind = .function := by rfl) (hl : env.kindOf x = some .cell ∨ env.kindOf x = some .free := by first | exact .inl rfl | exact .inr rfl) (hd : (x == ("__debug__" : Str)) = false := by decide) (hn : (x == ("__classdict__" : Str)) = false := by decide) :
    wpAny (model prog w) A (eval (.Name x pos) env) Q E s := by
  rcases hl with hl | hl
  · exact wpAny_Name (wpAny_loadName_cell hk hl hc ⟨o, (S.nw _ hm).1, ho⟩ h) hd
  · exact wpAny_Name (wpAny_loadName_free hk hl hc ⟨o, (S.nw _ hm).1, ho⟩ h hn) hd
theorem r_globalE {x : Str} {pos : Pos} {v : Value} {Q : Value → Shared → Prop} (S : St g os h₀ L l news s) (B : Base w h₀) (e : nsIn (KK w) mainGlobals x = some (some v)) (h : Q v s)
    (hg : env.globals = mainGlobals := by rfl) (hk : env.scope.kind = .function := by rfl) (hl : env.kindOf x = some .globalImplicit := by rfl) (hd : (x == ("__debug__" : Str)) = false := by decide) :
    wpAny (model prog w) A (eval (.Name x pos) env) Q E s := by
  obtain ⟨_, F, _⟩ := S.fr
  obtain ⟨_, _, _, _, T⟩ := B.top
  exact Name_function_global hk hl (loadGlobal_global (env := env) (hg ▸ T.g.keeps F.keep) (mg_of B.k T.g e) h) hd
theorem r_builtinE {x : Str} {pos : Pos} {v : Value} {Q : Value → Shared → Prop} (S : St g os h₀ L l news s) (B : Base w h₀) (e : nsIn (KK w) mainGlobals x = some none) (hv : bootBuiltins x = some v) (hn : x ≠ "__name__") (h : Q v s)
    (hg : env.globals = mainGlobals := by rfl) (hb : env.builtins = builtinsNs := by rfl) (hk : env.scope.kind = .function := by rfl) (hl : env.kindOf x = some .globalImplicit := by rfl) (hd : (x == ("__debug__" : Str)) = false := by decide) :
    wpAny (model prog w) A (eval (.Name x pos) env) Q E s := by
  obtain ⟨_, F, _⟩ := S.fr
  obtain ⟨_, _, _, _, T⟩ := B.top
  exact Name_function_global hk hl (loadGlobal_builtin (env := env) (hg ▸ T.g.keeps F.keep) (mg_none_of B.k T.g e) (hb ▸ T.b.keeps F.keep) ((T.builtins x hn).trans hv) h) hd
theorem r_storeE {x : Str} {v : Value} {Q : Unit → Shared → Prop} (S : St g os h₀ env.locals l news s) (h : ∀ s', St g os h₀ env.locals ((x, v) :: l) news s' → Q () s')
    (hk : env.scope.kind = .function := by rfl) (hl : env.kindOf x = some .local := by rfl) :
    wpAny (model prog w) A (storeName env x v) Q E s := by
  obtain ⟨m, F, H⟩ := S.fr
  exact wpAny_storeName_local hl F.ns (fun h' hn hs => h _ ⟨⟨_, F.set hn hs, H.put x v⟩, S.nw.set hs, S.gens, S.os⟩) (by rw [hk]; rfl)
theorem r_assignE {x : Str} {pos : Pos} {v : Value} {Q : Unit → Shared → Prop} (S : St g os h₀ env.locals l news s) (h : ∀ s', St g os h₀ env.locals ((x, v) :: l) news s' → Q () s')
    (hk : env.scope.kind = .function := by rfl) (hl : env.kindOf x = some .local := by rfl) :
    wpAny (model prog w) A (assign (.Name x pos) env v) Q E s := wpAny_assign_Name (r_storeE S h hk hl)
theorem r_storeCellE {x : Str} {v : Value} {v₀ : Option Value} {Q : Unit → Shared → Prop} (S : St g os h₀ L l news s) (hc : env.cells.lookup x = some c) (ho : o.data = .cell v₀) (U : Upd c o { o with data := .cell (some v) } news news')
    (h : ∀ s', St g os h₀ L l news' s' → Q () s') (hk : env.scope.kind = .function := by rfl) (hl : env.kindOf x = some .cell := by rfl) :
    wpAny (model prog w) A (storeName env x v) Q E s := by
  have hm : (c, o) ∈ news := by obtain ⟨pre, post, rfl, _⟩ := U.split; exact List.mem_append.mpr (.inr (.head _))
  unfold storeName
  simp only [hl, hk]
  refine wpAny_bind (wpAny_cellOf hc ?_)
  unfold cellSet
  refine wpAny_bind (wpAny_load (S.nw _ hm).1 ?_)
  rw [ho]
  exact wpAny_update (S.nw _ hm).1 (h _ (S.change U (Heap.SameBut.update ..) (Heap.get?_update_self _ (S.nw _ hm).1 rfl) s.toks))
theorem r_assignCellE {x : Str} {pos : Pos} {v : Value} {v₀ : Option Value} {Q : Unit → Shared → Prop} (S : St g os h₀ L l news s) (hc : env.cells.lookup x = some c) (ho : o.data = .cell v₀) (U : Upd c o { o with data := .cell (some v) } news news')
    (h : ∀ s', St g os h₀ L l news' s' → Q () s') (hk : env.scope.kind = .function := by rfl) (hl : env.kindOf x = some .cell := by rfl) :
    wpAny (model prog w) A (assign (.Name x pos) env v) Q E s := wpAny_assign_Name (r_storeCellE S hc ho U h hk hl)
/-- a cell joins the made objects -/
theorem St.addCell (S : St g os h₀ L l news s) {v : Option Value} (hc : s.heap.IsCell c v) (hL : c ≠ L) (h0 : h₀.objs.size ≤ c) : ∃ o, o.data = .cell v ∧ St g os h₀ L l ((c, o) :: news) s := by
  obtain ⟨o, ho, hd⟩ := hc
  refine ⟨o, hd, S.fr, fun p hp => ?_, S.gens, S.os⟩
  rcases List.mem_cons.mp hp with rfl | hp
  · exact ⟨ho, hL, S.fresh h0⟩
  · exact S.nw p hp
/-- a def with cells, called -/
theorem r_callC {f : Addr} {args : List Value} {binds : List (Str × Value)} {fname qual : Str} {params : Arguments} {body : List Stmt} {fscope : Scope} {dV kV doc pm cdv ct oc : Value} {an od : Option Addr} {osl : Array (Option Value)} {hb : Heap} {Q : Value → Shared → Prop}
    (ho : (KK w).lookup f = some ⟨oc, od, .func (fnOf fname qual params body fscope dV kV doc pm an cdv ct), osl⟩) (hcd : codeIn (KK w) cdv qual = true)
    (hbind : bindArgs (fnOf fname qual params body fscope dV kV doc pm an cdv ct) ⟨args, []⟩ = pure binds)
    (hkind : ∀ N, ∀ x ∈ binds, fscope.names.lookup x.1 = some .local ∨ (fscope.names.lookup x.1 = some .cell ∧ ((cellsFrom N fscope.names []).lookup x.1).isSome = true))
    (B : Base w hb) (hle : ∀ b o, hb.get? b = some o → s.heap.get? b = some o) (hsz : hb.objs.size ≤ s.heap.objs.size) (hn : ∀ p ∈ news, s.heap.get? p.1 = some p.2 ∧ hb.get? p.1 = none)
    (hroom : A.depth < recursionLimit)
    (hl : ∀ L, SubM (bindL (envX qual fscope L f cdv (cellsFrom (L + 1) fscope.names [])).kindOf binds fun _ => none) l)
    (h : ∀ L s₁, (∀ p ∈ news, p.1 < L) → Cl L (cellsFrom (L + 1) fscope.names []) s₁.heap (bindC (envX qual fscope L f cdv (cellsFrom (L + 1) fscope.names [])).kindOf binds fun _ => none) → St s.gens s.os hb L l news s₁ →
      wpAny (model prog w) (A.deeper (envX qual fscope L f cdv (cellsFrom (L + 1) fscope.names []))) (execs body (envX qual fscope L f cdv (cellsFrom (L + 1) fscope.names []))) (RetQ Q) (fun _ _ => False) s₁)
    (hco : fscope.isCoroutine = false := by rfl) (hgen : fscope.isGenerator = false := by rfl) (hk : fscope.kind = .function := by rfl) :
    wpAny (model prog w) A (call (.ref f) args) Q E s := by
  have X := B.k.keeps hle
  refine wpAny_call (codeAny_call_cells (fd := fnOf fname qual params body fscope dV kV doc pm an cdv ct) (body := body) (binds := binds) hroom (X _ _ ho) rfl (B.nolimit.keeps hle) (codeRec_of X hcd) rfl hbind rfl (hkind _) (fun s₁ I => ?_) hco hgen hk)
  obtain ⟨⟨h₁, tk, rfl⟩, hns, hkeep, hfr⟩ := I.toInCall
  refine wpAny_mono (h s.heap.objs.size _ (fun p hp => Heap.lt_size (hn p hp).1) ⟨I.cell, I.apart, I.above⟩
    ⟨⟨_, ⟨hns, fun b o e => hkeep b o (hle b o e), hsz⟩, (hl _).has⟩, fun p hp => ⟨hkeep _ _ (hn p hp).1, Nat.ne_of_lt (Heap.lt_size (hn p hp).1), (hn p hp).2⟩, rfl, rfl⟩) (fun fl s' hf => ?_) fun _ _ e => e.elim
  cases fl <;> exact hf
end
end Mine
end
section
open PySem PySem.W PyProof.Rows PySem.Calls
set_option Elab.async false
set_option maxRecDepth 100000
set_option maxHeartbeats 1000000
set_option linter.unusedVariables false
namespace Mine
noncomputable def below (a b : List Nat) : Bool :=
  let k : Int := (b.length : Int) - a.length
  if 0 < k then (if Int.fmod k 2 = 1 then lev a b (2 * k) else lev b a (2 * k)) == 2 * k else false
section
variable {w : World} {A : Around} {s : Shared}
theorem below_spec {a b : List Nat} {t u : Tok} {Q : Value → Shared → Prop} (B : Base w s.heap) (hh : A.handled = none) (hr : A.depth + 10 < recursionLimit) (ha : ∀ x ∈ a, x < 128) (hb : ∀ x ∈ b, x < 128) (hla : a.length ≤ 40) (hlb : b.length ≤ 40)
    (h : ∀ s', Grow s s' → Q (.bool (below a b)) s') : wpAny (MM w) A (call (.ref 108) [.str (T a) t, .str (T b) u]) Q NoE s := by
  have hA : (T a).length ≤ 1000000 := by rw [T_len]; (clear hh hr hlb; omega)
  have hB : (T b).length ≤ 1000000 := by rw [T_len]; (clear hh hr hla hA; omega)
  refine r_callP (binds := [("word", .str (T a) t), ("other", .str (T b) u)]) rfl rfl rfl rfl B (by (clear hh hla hlb hA hB; omega)) (fun L s₁ S => ?_)
  refine r_cons ?_; refine wpAny_Assign_Name ?_; refine wpAny_BinOp ?_; refine Call_ ?_
  refine r_builtin (by assumption) (by assumption) (by rfl) (by first | reg3_boot | boot_fact) (by decide) ?_
  refine PyProof.Rows.callWith_builtin1 ?_; refine args_cons ?_; refine r_name (by assumption) (by rfl) ?_; refine args_nil ?_
  refine r_lenS (by assumption) (by assumption) ?_; intro _ _ _; refine Call_ ?_
  refine r_builtin (by assumption) (by assumption) (by rfl) (by first | reg3_boot | boot_fact) (by decide) ?_
  refine PyProof.Rows.callWith_builtin1 ?_; refine args_cons ?_; refine r_name (by assumption) (by rfl) ?_; refine args_nil ?_
  refine r_lenS (by assumption) (by assumption) ?_; intro _ _ _; refine r_sub (by assumption) ?_; intro _ _ _
  refine r_store (by assumption) ?_; intro _ _; refine SeqQ.go ?_; refine r_cons ?_; refine wpAny_Assign_Name ?_; refine r_ifexp ?_
  refine wpAny_isTrue_Compare1 ?_; refine wpAny_BinOp ?_; refine r_name (by assumption) (by rfl) ?_
  refine r_int (by assumption) ?_; intro _ _ _; refine r_mod (by assumption) (by decide) ?_; intro _ _ _
  refine r_int (by assumption) ?_; intro _ _ _; refine PyProof.Rows.eq_int ?_; refine wpAny_truthy_bool ?_
  rw [T_len, T_len]
  refine Br.split (fun e => ?_) (fun e => ?_)
  · have e' : Int.fmod ((b.length : Int) - a.length) 2 = 1 := by simpa using e
    refine List_ ?_; refine args_cons ?_; refine r_name (by assumption) (by rfl) ?_; refine args_cons ?_
    refine r_name (by assumption) (by rfl) ?_; refine args_nil ?_; refine r_newList (by assumption) (by simp) ?_; intro _ _ _ _
    refine r_store (by assumption) ?_; intro _ _; refine SeqQ.go ?_; refine r_cons ?_; refine wpAny_Return_some ?_; refine r_vand ?_
    refine wpAny_Compare1 ?_; refine r_name (by assumption) (by rfl) ?_; refine r_int (by assumption) ?_; intro _ _ _
    refine PyProof.Rows.gt_int ?_; refine wpAny_truthy_bool ?_
    rw [T_len, T_len]
    refine Br.split (fun e2 => ?_) (fun e2 => ?_)
    · have e2' : (0 : Int) < (b.length : Int) - a.length := by simpa using e2
      refine BoolOp_one ?_; refine wpAny_Compare1 ?_; refine Call_ ?_; refine r_global (by assumption) (by assumption) (gvlevenshteindistance _) ?_
      refine r_callK (by assumption) (by assumption) (by rfl) ?_; refine args_cons ?_; refine Subscript_ ?_
      refine r_name (by assumption) (by rfl) ?_; refine r_int (by assumption) ?_; intro _ _ _
      refine r_item (by assumption) (by (repeat (first | exact List.Mem.head _ | apply List.Mem.tail))) (by rfl) (by decide) (by decide) ?_
      refine args_cons ?_; refine Subscript_ ?_; refine r_name (by assumption) (by rfl) ?_; refine r_int (by assumption) ?_; intro _ _ _
      refine r_item (by assumption) (by (repeat (first | exact List.Mem.head _ | apply List.Mem.tail))) (by rfl) (by decide) (by decide) ?_
      refine args_cons ?_; refine wpAny_BinOp ?_; refine r_int (by assumption) ?_; intro _ _ _; refine r_name (by assumption) (by rfl) ?_
      refine r_mul (by assumption) (IntMulOk.of_left (by decide)) ?_; intro _ _ _; refine args_nil ?_
      refine k_and (by assumption) (by assumption) ?_
      rw [T_len, T_len]
      refine lev_spec ?_ hh ?_ ha hb hla hlb ?_
      · exact St.base (by assumption) B
      · show A.depth + 1 + 5 < _; (clear hh hla hlb hA hB e e' e2 e2'; omega)
      intro t6 s9 G9
      have S9 := St.after (by assumption) G9
      refine wpAny_BinOp ?_; refine r_int (by assumption) ?_; intro _ _ _; refine r_name (by assumption) (by rfl) ?_
      refine r_mul (by assumption) (IntMulOk.of_left (by decide)) ?_; intro _ _ _; refine PyProof.Rows.eq_int ?_; refine SeqQ.ret ?_
      refine RetQ.ret ?_
      rw [T_len, T_len]
      have := h _ (St.out (by assumption))
      simpa only [below, if_pos e', if_pos e2'] using this
    · have e2' : ¬ (0 : Int) < (b.length : Int) - a.length := by simpa using e2
      refine SeqQ.ret ?_; refine RetQ.ret ?_
      rw [decide_eq_false e2']
      have := h _ (St.out (by assumption))
      simpa only [below, if_neg e2'] using this
  · have e' : ¬ Int.fmod ((b.length : Int) - a.length) 2 = 1 := by simpa using e
    refine List_ ?_; refine args_cons ?_; refine r_name (by assumption) (by rfl) ?_; refine args_cons ?_
    refine r_name (by assumption) (by rfl) ?_; refine args_nil ?_; refine r_newList (by assumption) (by simp) ?_; intro _ _ _ _
    refine r_store (by assumption) ?_; intro _ _; refine SeqQ.go ?_; refine r_cons ?_; refine wpAny_Return_some ?_; refine r_vand ?_
    refine wpAny_Compare1 ?_; refine r_name (by assumption) (by rfl) ?_; refine r_int (by assumption) ?_; intro _ _ _
    refine PyProof.Rows.gt_int ?_; refine wpAny_truthy_bool ?_
    rw [T_len, T_len]
    refine Br.split (fun e2 => ?_) (fun e2 => ?_)
    · have e2' : (0 : Int) < (b.length : Int) - a.length := by simpa using e2
      refine BoolOp_one ?_; refine wpAny_Compare1 ?_; refine Call_ ?_; refine r_global (by assumption) (by assumption) (gvlevenshteindistance _) ?_
      refine r_callK (by assumption) (by assumption) (by rfl) ?_; refine args_cons ?_; refine Subscript_ ?_
      refine r_name (by assumption) (by rfl) ?_; refine r_int (by assumption) ?_; intro _ _ _
      refine r_item (by assumption) (by (repeat (first | exact List.Mem.head _ | apply List.Mem.tail))) (by rfl) (by decide) (by decide) ?_
      refine args_cons ?_; refine Subscript_ ?_; refine r_name (by assumption) (by rfl) ?_; refine r_int (by assumption) ?_; intro _ _ _
      refine r_item (by assumption) (by (repeat (first | exact List.Mem.head _ | apply List.Mem.tail))) (by rfl) (by decide) (by decide) ?_
      refine args_cons ?_; refine wpAny_BinOp ?_; refine r_int (by assumption) ?_; intro _ _ _; refine r_name (by assumption) (by rfl) ?_
      refine r_mul (by assumption) (IntMulOk.of_left (by decide)) ?_; intro _ _ _; refine args_nil ?_
      refine k_and (by assumption) (by assumption) ?_
      rw [T_len, T_len]
      refine lev_spec ?_ hh ?_ hb ha hlb hla ?_
      · exact St.base (by assumption) B
      · show A.depth + 1 + 5 < _; (clear hh hla hlb hA hB e e' e2 e2'; omega)
      intro t6 s9 G9
      have S9 := St.after (by assumption) G9
      refine wpAny_BinOp ?_; refine r_int (by assumption) ?_; intro _ _ _; refine r_name (by assumption) (by rfl) ?_
      refine r_mul (by assumption) (IntMulOk.of_left (by decide)) ?_; intro _ _ _; refine PyProof.Rows.eq_int ?_; refine SeqQ.ret ?_
      refine RetQ.ret ?_
      rw [T_len, T_len]
      have := h _ (St.out (by assumption))
      simpa only [below, if_neg e', if_pos e2'] using this
    · have e2' : ¬ (0 : Int) < (b.length : Int) - a.length := by simpa using e2
      refine SeqQ.ret ?_; refine RetQ.ret ?_
      rw [decide_eq_false e2']
      have := h _ (St.out (by assumption))
      simpa only [below, if_neg e2'] using this
end
end Mine
end
section
open PySem PySem.W PyProof.Rows PySem.Calls
set_option Elab.async false
set_option maxRecDepth 100000
set_option maxHeartbeats 1000000
set_option linter.unusedVariables false
namespace Mine
inductive Rel2 {α : Type} (R : α → Value → Prop) : List α → List Value → Prop
  | nil : Rel2 R [] []
  | cons {a v as vs} : R a v → Rel2 R as vs → Rel2 R (a :: as) (v :: vs)
theorem Rel2.snoc {α : Type} {R : α → Value → Prop} {a : α} {v : Value} : ∀ {as : List α} {vs : List Value}, Rel2 R as vs → R a v → Rel2 R (as ++ [a]) (vs ++ [v])
  | _, _, .nil, h => .cons h .nil
  | _, _, .cons x r, h => .cons x (r.snoc h)
theorem Rel2.length {α : Type} {R : α → Value → Prop} : ∀ {as : List α} {vs : List Value}, Rel2 R as vs → vs.length = as.length
  | _, _, .nil => rfl
  | _, _, .cons _ r => by rw [List.length_cons, List.length_cons, r.length]
theorem Rel2.get {α : Type} {R : α → Value → Prop} : ∀ {as : List α} {vs : List Value}, Rel2 R as vs → ∀ (i : Nat) (a : α), as[i]? = some a → ∃ v, vs[i]? = some v ∧ R a v
  | _, _, .nil, i, a, h => by simp at h
  | _, _, .cons x r, 0, a, h => by simp at h; subst h; exact ⟨_, rfl, x⟩
  | _, _, .cons x r, i + 1, a, h => by simpa using r.get i a (by simpa using h)
theorem Rel2.map {α β : Type} {R : β → Value → Prop} {f : α → β} : ∀ {as : List α} {vs : List Value}, Rel2 (fun a v => R (f a) v) as vs → Rel2 R (as.map f) vs
  | _, _, .nil => .nil
  | _, _, .cons x r => .cons x r.map
section
variable {prog : Program} {w : World} {A : Around} {env : Env}
/-- an iterator, by what it gives -/
structure Iter (prog : Program) (w : World) (A : Around) {α : Type} (I : Addr) (vals : List α) (Val : α → Value → Prop) (It : Nat → Obj → Prop) : Prop where
  next : ∀ {g os h₀ C l news} {s : Shared} (i : Nat) (o : Obj) (Q : Option Value → Shared → Prop), It i o → St g os h₀ C l ((I, o) :: news) s → (∀ p ∈ news, p.1 ≠ I) →
    (∀ a, vals[i]? = some a → ∀ v o' s', Val a v → It (i + 1) o' → St g os h₀ C l ((I, o') :: news) s' → Q (some v) s') →
    (vals[i]? = none → ∀ s', St g os h₀ C l news s' → Q none s') → wpAny (model prog w) A (pyNext (.ref I)) Q NoE s
  self : ∀ (i : Nat) (o : Obj) (Q : Value → Shared → Prop) (s : Shared), It i o → s.heap.get? I = some o → Q (.ref I) s → wpAny (model prog w) A (pyIter (.ref I)) Q NoE s
theorem Iter.range (hh : A.handled = none) (I : Addr) (n : Nat) : Iter prog w A I (List.range n) (fun k v => ∃ t, v = .int (k : Int) t) (fun i o => o = rangeIt (i : Int) ((n : Int) - i) 1) where
  next := fun {g os h₀ C l news s} i o Q hi S hd h1 h2 => by
    subst hi
    refine r_nextRange hh S hd (fun hlt t s' S' => ?_) (fun hle s' S' => ?_)
    · refine h1 i (by rw [List.getElem?_range (by (clear hh; omega))]) _ _ _ ⟨t, rfl⟩ ?_ S'
      have e1 : ((i + 1 : Nat) : Int) = (i : Int) + 1 := by push_cast; rfl
      have e2 : (n : Int) - ((i : Int) + 1) = (n : Int) - i - 1 := by (clear hh hlt e1; omega)
      rw [e1, e2]
    · exact h2 (by rw [List.getElem?_eq_none]; simp; (clear hh; omega)) _ S'
  self := fun i o Q s hi ho hQ => by
    subst hi
    refine (Walks.range hh I 0 1 n).self i s Q NoE ?_ hQ
    simpa using ho
noncomputable def StrIt (x : Str) (t : Tok) (i : Nat) (o : Obj) : Prop := o.cls = .type "str_ascii_iterator" ∧ o.data = .fields #[.str x t, .int i 0]
theorem Iter.str (hh : A.handled = none) (I : Addr) (a : List Nat) (t : Tok) : Iter prog w A I a (fun c v => ∃ t, v = .str (T [c]) t) (fun i o => StrIt (T a) t i o) where
  next := fun {g os h₀ C l news s} i o Q hi S hd h1 h2 => by
    have hit : s.heap.IsStrIter I "str_ascii_iterator" (T a) t i := ⟨o, (S.nw _ (.head _)).1, hi.1, hi.2⟩
    cases hc : a[i]? with
    | some c =>
      refine wpAny_pyNext_ascii_item hit (c := c) (by simpa [T] using hc) fun h' hit' hs' => ?_
      obtain ⟨o', ho', hc', hd'⟩ := hit'
      exact h1 c hc _ o' _ ⟨_, rfl⟩ ⟨hc', hd'⟩ (S.change (.head hd) hs' ho' _)
    | none =>
      refine wpAny_pyNext_ascii_end hh hit (by simpa [T] using hc) fun h' hs' => ?_
      exact h2 hc _ (S.lose hd hs' s.toks)
  self := fun i o Q s hi ho hQ => (Walks.strAscii hh I (T a) t).self i s Q NoE ⟨o, ho, hi.1, hi.2⟩ hQ
theorem r_iterStr {g : Array GenState} {os : OsState} {h₀ : Heap} {C : Addr} {l : List (Str × Value)} {news : List (Addr × Obj)} {s : Shared} {E : Value → Shared → Prop} {a : List Nat} {t : Tok} {Q : Value → Shared → Prop} (S : St g os h₀ C l news s) (ha : ∀ c ∈ a, c < 128)
    (h : ∀ I o s', StrIt (T a) t 0 o → (∀ p ∈ news, p.1 < I) → St g os h₀ C l ((I, o) :: news) s' → Q (.ref I) s') : wpAny (model prog w) A (pyIter (.str (T a) t)) Q E s :=
  wpAny_pyIter_ascii (by simpa [T] using ha) (h _ _ _ ⟨rfl, rfl⟩ (fun p hp => S.lt hp) (S.push _ _))
/-- a comprehension over an iterator -/
theorem comp_iter {α : Type} {I : Addr} {vals : List α} {Val : α → Value → Prop} {It : Nat → Obj → Prop} (W : Iter prog w A I vals Val It) {R : α → Value → Prop} {p : α → Bool}
    {scope : Scope} {cl : List (Str × Addr)} {x : Str} {px : Pos} {ifs : List Expr} {elt : Expr} {Fin : Array GenState → OsState → Heap → List (Str × Value) → Addr → Addr → Array Value → Nat → List (Addr × Obj) → Prop}
    {g : Array GenState} {os : OsState} {h₀ : Heap} {l : List (Str × Value)} {news : List (Addr × Obj)} {s₂ : Shared} {o : Obj} {L₀ : Addr}
    (hL₀ : env.locals = L₀) (S : St g os h₀ L₀ l ((I, o) :: news) s₂) (hI : It 0 o) (hd : ∀ q ∈ news, q.1 < I) (hlen : vals.length ≤ 1000000)
    (hk : scope.kind = .function) (hx : scope.names.lookup x = some .local)
    (htest : ∀ (i : Nat) (a : α) v C N l' s₃, vals[i]? = some a → Val a v → (∀ q ∈ news, q ∈ N) → St g os h₀ C ((x, v) :: l') N s₃ → ∀ Q : Bool → Shared → Prop, (∀ s₄, St g os h₀ C ((x, v) :: l') N s₄ → Q (p a) s₄) →
      wpAny (model prog w) A (forIn ifs true fun c r => if r = true then do let ok ← isTrue c (compEnvC scope cl C env) (eval c (compEnvC scope cl C env)); pure (ForInStep.yield ok) else pure (ForInStep.yield r)) Q NoE s₃)
    (helt : ∀ (i : Nat) (a : α) v C N l' s₃, vals[i]? = some a → Val a v → p a = true → (∀ q ∈ news, q ∈ N) → St g os h₀ C ((x, v) :: l') N s₃ → ∀ Q : Value → Shared → Prop, (∀ y s₄, R a y → St g os h₀ C ((x, v) :: l') N s₄ → Q y s₄) → wpAny (model prog w) A (eval elt (compEnvC scope cl C env)) Q NoE s₃)
    (hfin : ∀ C D ys ep, Rel2 R (vals.filter p) ys.toList → (∀ q ∈ news, q.1 < D) → env.locals < D → Fin g os h₀ l C D ys ep news) :
    CompQ prog w A env scope cl x px ifs elt Fin (.ref I) s₂ := by
  subst hL₀
  refine ⟨g, os, h₀, l, _, S, fun C D oL s₃ hfL hD hLD hDC S3 => ?_⟩
  have hID : I < D := hD _ (.head _)
  have hIL : I ≠ env.locals := (S.nw _ (.head _)).2.1
  have hC : ∀ C, (compEnvC scope cl C env).kindOf x = some .local := fun C => lookup_relabel_local hx
  refine ⟨fun n s => ∃ i o ys ep l', It i o ∧ St g os h₀ C l' ((I, o) :: (env.locals, oL) :: (D, listOf ys ep) :: news) s ∧ Rel2 R ((vals.take i).filter p) ys.toList ∧ i ≤ vals.length ∧ n = vals.length - i, vals.length, ?_, ?_, ?_⟩
  · refine ⟨0, o, #[], 0, [], hI, S3.drop (fun q hq => ?_), by simpa using Rel2.nil, Nat.zero_le _, rfl⟩
    simp only [List.mem_cons] at hq ⊢
    rcases hq with h | h | h | h
    · exact .inr (.inr (.inl h))
    · exact .inl h
    · exact .inr (.inl h)
    · exact .inr (.inr (.inr h))
  · exact fun Q' hQ' => W.self 0 o Q' s₃ hI (S3.nw (I, o) (.tail _ (.tail _ (.head _)))).1 hQ'
  · rintro n s ⟨i, o, ys, ep, l', hIt, S4, hR, hi, rfl⟩
    refine W.next i o _ hIt S4 ?_ ?_ ?_
    · intro q hq
      simp only [List.mem_cons] at hq
      rcases hq with rfl | rfl | hq
      · exact hIL.symm
      · exact Nat.ne_of_gt hID
      · exact Nat.ne_of_lt (hd q hq)
    · intro a ha v o' s5 hv hIt' S5
      have hlt : i < vals.length := (List.getElem?_eq_some_iff.mp ha).1
      have htake : vals.take (i + 1) = vals.take i ++ [a] := by rw [List.take_add_one, ha]; rfl
      refine r_assignE S5 (fun s6 S6 => ?_) hk (hC C)
      refine htest i a v C _ l' s6 ha hv (fun q hq => .tail _ (.tail _ (.tail _ hq))) S6 _ fun s7 S7 => ?_
      cases hp : p a with
      | false =>
        rw [if_neg (by simp)]
        exact ⟨vals.length - (i + 1), by (clear hlen hk hx hLD hDC hID hIL hi ha htake hp; omega), i + 1, o', ys, ep, _, hIt', S7, by rw [htake, List.filter_append]; simpa [hp] using hR, hlt, rfl⟩
      | true =>
        rw [if_pos rfl]
        refine helt i a v C _ l' s7 ha hv hp (fun q hq => .tail _ (.tail _ (.tail _ hq))) S7 _ fun y s8 hy S8 => ?_
        have hsz : ys.size ≤ 1000000 := by
          have h1 := hR.length
          have h2 : ((vals.take i).filter p).length ≤ (vals.take i).length := List.length_filter_le _ _
          have h3 : (vals.take i).length ≤ vals.length := by rw [List.length_take]; (clear hlen hk hx hLD hDC hID hIL hi ha htake hp h1 h2; omega)
          have h4 : ys.toList.length = ys.size := Array.length_toList
          (clear hk hx hLD hDC hID hIL hi ha hlt htake hp; omega)
        refine r_append S8 (.tail (Nat.ne_of_lt hID) (.tail (Nat.ne_of_lt hLD) (.head (fun q hq => Nat.ne_of_lt (hD q (.tail _ hq)))))) hsz fun s9 S9 => ?_
        exact ⟨vals.length - (i + 1), by (clear hlen hk hx hLD hDC hID hIL hi ha htake hp hsz; omega), i + 1, o', _, _, _, hIt', S9, by rw [htake, List.filter_append]; simpa [hp] using hR.snoc hy, hlt, rfl⟩
    · intro hn s5 S5
      have hge : vals.length ≤ i := List.getElem?_eq_none_iff.mp hn
      rw [List.take_of_length_le hge] at hR
      exact ⟨l', ys, ep, news, S5, fun q hq => .tail _ hq, hfin C D ys ep hR (fun q hq => hD q (.tail _ hq)) hLD⟩
/-- no test, one test -/
theorem ifs_nil {s : Shared} {cenv : Env} {Q : Bool → Shared → Prop} (h : Q true s) :
    wpAny (model prog w) A (forIn ([] : List Expr) true fun c r => if r = true then do let ok ← isTrue c cenv (eval c cenv); pure (ForInStep.yield ok) else pure (ForInStep.yield r)) Q NoE s := by
  rw [List.forIn_nil]; exact wpAny_pure h
theorem ifs_one {e : Expr} {s : Shared} {cenv : Env} {Q : Bool → Shared → Prop} (h : wpAny (model prog w) A (isTrue e cenv (eval e cenv)) Q NoE s) :
    wpAny (model prog w) A (forIn [e] true fun c r => if r = true then do let ok ← isTrue c cenv (eval c cenv); pure (ForInStep.yield ok) else pure (ForInStep.yield r)) Q NoE s := by
  rw [List.forIn_cons, if_pos rfl]
  refine wpAny_bind (wpAny_bind (wpAny_mono h (fun ok s' h' => wpAny_pure ?_) fun _ _ e => e))
  show wpAny _ _ (forIn ([] : List Expr) ok _) _ _ _
  rw [List.forIn_nil]
  exact wpAny_pure h'
end
end Mine
end
section
open PySem PySem.W PyProof.Rows PySem.Calls
set_option Elab.async false
set_option maxRecDepth 100000
set_option maxHeartbeats 1000000
set_option linter.unusedVariables false
namespace Mine
/-- a text's value -/
noncomputable abbrev TV (x : List Nat) (v : Value) : Prop := ∃ t, v = .str (T x) t
section
variable {prog : Program} {w : World} {A : Around} {E : Value → Shared → Prop} {s : Shared} {g : Array GenState} {os : OsState} {h₀ : Heap} {L a : Addr} {l : List (Str × Value)} {news : List (Addr × Obj)}
theorem r_inT {c : Nat} {a : List Nat} {t u : Tok} {Q : Value → Shared → Prop} (h : Q (.bool (a.contains c)) s) : wpAny (model prog w) A (compareOp .In (.str (T [c]) u) (.str (T a) t)) Q E s := by
  refine PyProof.Rows.in_str ?_
  have : (!(Builtin.Str.occurrences (T a) (T [c]) 0 (T a).length 1).isEmpty) = a.contains c := by
    rw [show T [c] = ⟨#[c]⟩ from rfl, StrLaws.found_one, Bool.eq_iff_iff, decide_eq_true_eq, List.contains_iff_mem]
    simp [T]
  rw [this]
  exact h
theorem strVals {xs : List (List Nat)} {vs : List Value} (h : Rel2 TV xs vs) : ∃ l : List (Str × Tok), vs = strValues l ∧ l.map (·.1) = xs.map T := by
  induction h with
  | nil => exact ⟨[], rfl, rfl⟩
  | cons h _ ih =>
    obtain ⟨t, rfl⟩ := h
    obtain ⟨l, rfl, e⟩ := ih
    exact ⟨(_, t) :: l, rfl, by simp only [List.map_cons, e]; rfl⟩
theorem join_T (xs : List (List Nat)) : Txt.join (T []) (xs.map T) = T xs.flatten := by
  have key : ∀ (ys : List (List Nat)) (acc : List Nat), (ys.map T).foldl (fun (acc : Array Nat) (p : Str) => acc ++ (T []).cps ++ p.cps) acc.toArray = (acc ++ ys.flatten).toArray := by
    intro ys
    induction ys with
    | nil => intro acc; simp
    | cons y r ih =>
      intro acc
      rw [List.map_cons, List.foldl_cons]
      have : acc.toArray ++ (T []).cps ++ (T y).cps = (acc ++ y).toArray := by simp [T]
      rw [this, ih]; simp
  cases xs with
  | nil => rfl
  | cons x r =>
    show Str.mk ((((x :: r).map T).drop 1).foldl _ (T x).cps) = _
    have := key r x
    simp only [List.map_cons, List.drop_succ_cons, List.drop_zero]
    show Str.mk ((r.map T).foldl _ x.toArray) = _
    rw [this]; rfl
theorem r_join {D : Addr} {ys : Array Value} {ep : Nat} {xs : List (List Nat)} {t : Tok} {Q : Value → Shared → Prop} (S : St g os h₀ L l news s) (hm : (D, listOf ys ep) ∈ news) (hx : Rel2 TV xs ys.toList) (hz : xs.flatten.length ≤ 1000000)
    (h : ∀ t s', St g os h₀ L l news s' → Q (.str (T xs.flatten) t) s') : wpAny (model prog w) A (call (.builtin "str.join") [.str (T []) t, .ref D]) Q E s := by
  obtain ⟨lv, e1, e2⟩ := strVals hx
  refine SC.join (l := lv) (texts := xs.map T) ?_ e2 ?_ ?_
  · have := PySem.IsL.isList (n := ep) (S.nw _ hm).1
    have e : ys = (strValues lv).toArray := by rw [← e1]
    rwa [e] at this
  · refine joinOk_of ?_
    have e : ((xs.map T).map (·.length)).sum = xs.flatten.length := by
      rw [List.length_flatten, List.map_map]; congr 1
    rw [e, show (T []).length = 0 from rfl]
    (clear e1 e2; omega)
  · intro t' k
    rw [join_T]
    exact h _ _ (S.toks k)
end
noncomputable def spl (sp a : List Nat) : List Nat := (a.map fun c => if sp.contains c then [92, c] else [c]).flatten
section
variable {w : World} {A : Around} {s : Shared}
theorem spelled_spec {a sp : List Nat} {t u : Tok} {Q : Value → Shared → Prop} (B : Base w s.heap) (hh : A.handled = none) (hr : A.depth + 10 < recursionLimit) (ha : ∀ x ∈ a, x < 128) (hla : a.length ≤ 40)
    (h : ∀ t s', Grow s s' → Q (.str (T (spl sp a)) t) s') : wpAny (MM w) A (call (.ref 96) [.str (T a) t, .str (T sp) u]) Q NoE s := by
  have hA : (T a).length ≤ 1000000 := by rw [T_len]; (clear hh hr; omega)
  refine r_callC (hb := s.heap) (news := []) (l := [("word", .str (T a) t)]) (binds := [("word", .str (T a) t), ("special", .str (T sp) u)]) rfl rfl rfl ?_ B (fun _ _ e => e) (Nat.le_refl _) (fun _ h => nomatch h) (by (clear hh hla hA; omega)) ?_ ?_
  · intro N x hx
    rcases List.mem_cons.mp hx with rfl | hx
    · exact .inl rfl
    · rcases List.mem_singleton.mp hx with rfl
      exact .inr ⟨rfl, rfl⟩
  · exact fun L => ⟨rfl, trivial⟩
  intro L s₁ _ X S
  obtain ⟨o, ho, S⟩ := S.addCell (X.cell "special" (L + 1) rfl : s₁.heap.IsCell (L + 1) (some (.str (T sp) u))) (Nat.succ_ne_self L) (Nat.le_trans S.above (Nat.le_succ L))
  refine r_cons ?_; refine wpAny_Return_some ?_; refine MethodCall_ ?_; refine r_str (by assumption) ?_; intro _ _ _; refine GM.join ?_
  refine PyProof.Rows.callWith_method1 ?_; refine args_cons ?_
  refine r_comp (cl := [("special", L + 1)]) rfl (by decide) rfl (by decide) (fun _ => rfl) ?_
  refine r_nameE (by assumption) (by rfl) ?_
  refine r_iterStr (by assumption) ha ?_
  intro I oI s2 hI hIlt S2
  apply comp_iter (Iter.str (by exact hh) I a t) (R := fun c v => TV (if sp.contains c then [92, c] else [c]) v) (p := fun _ => true) (hL₀ := rfl) (S := S2) (hI := hI) (hd := hIlt) (hlen := by (clear hh hr hA ho; omega)) (hk := rfl) (hx := rfl)
  · intro i c v C N l' s₃ _ _ _ S3 Q hQ
    exact ifs_nil (hQ _ S3)
  · rintro i c v C N l' s₃ hc ⟨tc, rfl⟩ _ hN S3 Q hQ
    have hm := hN _ (.head _)
    refine r_ifexp ?_; refine wpAny_isTrue_Compare1 ?_; refine r_nameE (by assumption) (by rfl) ?_
    refine r_cellE (by assumption) (by rfl) (by first | assumption | (repeat (first | exact List.Mem.head _ | apply List.Mem.tail))) (by assumption) ?_
    refine r_inT ?_; refine wpAny_truthy_bool ?_
    refine Br.split (fun e => ?_) (fun e => ?_)
    · refine wpAny_BinOp ?_; refine r_str (by assumption) ?_; intro _ _ _; refine r_nameE (by assumption) (by rfl) ?_
      refine r_adds (by assumption) ?_ ?_
      · rw [show (Str.ofString "\\" : Str) = T [92] by decide +kernel, T_len, T_len, sizeLine_eq]; exact (by decide : 1 + 1 ≤ 16777216)
      intro t4 s4 S4
      rw [show (Str.ofString "\\" : Str) = T [92] by decide +kernel, T_append]
      exact hQ _ _ ⟨t4, by rw [if_pos e]; rfl⟩ S4
    · refine r_nameE (by assumption) (by rfl) ?_
      exact hQ _ _ ⟨tc, by rw [if_neg (by rw [e]; exact Bool.false_ne_true)]⟩ S3
  · intro C D ys ep hR hD hLD s' S'
    rw [List.filter_eq_self.mpr (fun _ _ => rfl)] at hR
    refine args_nil ?_; change wpAny _ _ (call _ [_, _]) _ _ _
    rw [show (Str.ofString "" : Str) = T [] by decide +kernel]
    refine r_join (by assumption) (.head _) hR.map ?_ ?_
    · have : ∀ b : List Nat, (b.map fun c => if sp.contains c then [92, c] else [c]).flatten.length ≤ 2 * b.length := by
        intro b
        induction b with
        | nil => simp
        | cons x r ih =>
          rw [List.map_cons, List.flatten_cons, List.length_append, List.length_cons]
          split <;> simp only [List.length_cons, List.length_nil] <;> (clear hh hr hla hA ho hLD; omega)
      have := this a
      (clear hh hr hA ho hLD; omega)
    intro t4 s4 S4
    refine SeqQ.ret ?_; refine RetQ.ret ?_
    exact h _ _ (St.out (by assumption))
end
end Mine
end
section
open PySem PySem.W PyProof.Rows PySem.Calls
set_option Elab.async false
set_option maxRecDepth 100000
set_option maxHeartbeats 1000000
set_option linter.unusedVariables false
namespace Mine
section
variable {M : Model} {A : Around} {R : GenEnd} {Y : Protocol} {n : Nat} {s₀ : Shared} {c : Code} {fs : List Frame} {s : Shared} {env : Env}
  {K : Flow → Sem Fin} {H : Value → Sem Fin} {gd : Bool → Bool} {lv : List Value → List Value}
theorem seg_If {test : Expr} {body orelse : List Stmt} {pos : Pos}
    (h : wpAny M (A.over c fs) (isTrue test env (eval test env)) (fun b s' => Br b (Seg M A R Y n s₀ c ((execs body env).wrap K H gd lv) fs s') (Seg M A R Y n s₀ c ((execs orelse env).wrap K H gd lv) fs s'))
      (fun x s' => Seg M A R Y n s₀ c (H x) fs s') s) :
    Seg M A R Y n s₀ c ((exec (.If test body orelse pos) env).wrap K H gd lv) fs s := by
  rw [exec_If]
  rw [Sem.bind_eq_wrap', Sem.bind_eq_wrap', Sem.wrap_wrap]
  refine seg_at ?_
  show Seg M A R Y n s₀ c (Sem.wrap _ _ _ _ (Sem.wrap _ _ _ _ (isTrue test env (eval test env)))) fs s
  rw [Sem.wrap_wrap]
  refine seg_wrap (wpAny_mono h (fun b s' hb => ?_) fun _ _ x => x)
  cases b <;> exact hb
theorem bind_wrap {α : Type} (m : Sem α) (f : α → Sem Flow) : (m >>= f).wrap K H gd lv = m.wrap (fun a => (f a).wrap K H gd lv) H gd lv := by
  rw [Sem.bind_eq_wrap', Sem.wrap_wrap]; rfl
theorem seg_For {target iter : Expr} {body : List Stmt} {pos : Pos} (hs : ∀ x, foldedSetIterable iter env x = pure x)
    (h : wpAny M (A.over c fs) (eval iter env) (fun x s₁ => wpAny M (A.over c fs) (pyIter x) (fun it s₂ => ∀ p, Seg M A R Y n s₀ (.forLoop target it body [] env) (M.den (.forLoop target it body [] env))
      (.ret (fun r => ((match r with | .ok f => (.pure f : Sem Flow) | .error e => .raise e).onRaise fun (x : Value) => do
        if (← field x 1) == Value.none then unsupported "frame.own-activation:exception-without-traceback"
        setFlight x env.frame).wrap K H gd lv) none (gd false) (lv []) c p [] :: fs) s₂) (fun x s' => Seg M A R Y n s₀ c (H x) fs s') s₁) (fun x s' => Seg M A R Y n s₀ c (H x) fs s') s) :
    Seg M A R Y n s₀ c ((exec (.For target iter body [] pos) env).wrap K H gd lv) fs s := by
  rw [exec_For, bind_wrap]
  refine seg_at ?_
  show Seg M A R Y n s₀ c (Sem.wrap _ _ _ _ (eval iter env >>= _)) fs s
  rw [bind_wrap]
  refine seg_wrap (wpAny_mono h (fun x s₁ h₁ => ?_) fun _ _ e => e)
  rw [hs x]
  show Seg M A R Y n s₀ c (Sem.wrap _ _ _ _ (standAt iter.pos >>= _)) fs s₁
  rw [bind_wrap]
  refine seg_at ?_
  show Seg M A R Y n s₀ c (Sem.wrap _ _ _ _ (holding [x] (pyIter x) >>= _)) fs s₁
  rw [bind_wrap]
  refine seg_wrap (wpAny_holding (wpAny_mono h₁ (fun it s₂ h₂ => ?_) fun _ _ e => e))
  exact seg_call h₂
end
section
variable {prog : Program} {w : World} {A : Around} {R : GenEnd} {Y : Protocol} {n : Nat} {s₀ : Shared} {c : Code} {fs : List Frame} {s : Shared} {env : Env}
/-- what a loop in a generator waits with -/
noncomputable def forFrame (K : Flow → Sem Fin) (H : Value → Sem Fin) (gd : Bool → Bool) (lv : List Value → List Value) (env : Env) (c : Code) (p : Pos) : Frame :=
  .ret (fun r => ((match r with | .ok f => (.pure f : Sem Flow) | .error e => .raise e).onRaise fun (x : Value) => do
        if (← field x 1) == Value.none then unsupported "frame.own-activation:exception-without-traceback"
        setFlight x env.frame).wrap K H gd lv) none (gd false) (lv []) c p []
noncomputable def KL (target : Expr) (it : Value) (body : List Stmt) (env : Env) : Flow → Sem Fin
  | .next | .cont => .pure (.again (.forLoop target it body [] env))
  | .brk => .pure (.done .next)
  | .ret v => .pure (.done (.ret v))
noncomputable def HL (env : Env) : Value → Sem Fin := fun e => (do noteFrame e env; theTreesLotGoes e : Sem Unit).wrap (fun _ => .raise e) .raise id id
theorem seg_turn {target : Expr} {it : Value} {body : List Stmt} {K : Flow → Sem Fin} {H : Value → Sem Fin} {gd : Bool → Bool} {lv : List Value → List Value} {p : Pos}
    (h : wpAny (model prog w) (A.over (.forLoop target it body [] env) (forFrame K H gd lv env c p :: fs)) (pyNext it) (fun r s₁ => match r with
      | none => Seg (model prog w) A R Y n s₀ c (K .next) fs s₁
      | some v => wpAny (model prog w) (A.over (.forLoop target it body [] env) (forFrame K H gd lv env c p :: fs)) (letOwnedTupleGo target it v) (fun _ s₂ =>
          wpAny (model prog w) (A.over (.forLoop target it body [] env) (forFrame K H gd lv env c p :: fs)) (assign target env v) (fun _ s₃ =>
            Seg (model prog w) A R Y n s₀ (.forLoop target it body [] env) ((execs body env).wrap (KL target it body env) (HL env) id id) (forFrame K H gd lv env c p :: fs) s₃) NoE s₂) NoE s₁) NoE s) :
    Seg (model prog w) A R Y n s₀ (.forLoop target it body [] env) ((model prog w).den (.forLoop target it body [] env)) (forFrame K H gd lv env c p :: fs) s := by
  show Seg _ A R Y n s₀ _ ((forTurn target it body [] env).onRaise (fun x => do noteFrame x env; theTreesLotGoes x)) _ s
  unfold forTurn
  rw [Sem.onRaise_eq_wrap, Sem.bind_eq_wrap', Sem.wrap_wrap]
  refine seg_at ?_
  show Seg _ A R Y n s₀ _ (Sem.wrap _ _ _ _ ((pyNext it).onRaise _ >>= _)) _ s
  rw [Sem.bind_eq_wrap', Sem.wrap_wrap]
  refine seg_wrap (wpAny_onRaise (wpAny_mono h (fun r s₁ h₁ => ?_) fun _ _ e => e.elim))
  cases r with
  | none =>
    show Seg _ A R Y n s₀ _ (.pure (.again (.block [] env))) _ s₁
    refine seg_again rfl ?_
    show Seg _ A R Y n s₀ _ (leafOf (.ok .next)) _ s₁
    exact seg_leaf (.ok .next) h₁
  | some v =>
    show Seg _ A R Y n s₀ _ (Sem.wrap _ _ _ _ (letOwnedTupleGo target it v >>= _)) _ s₁
    rw [Sem.bind_eq_wrap', Sem.wrap_wrap]
    refine seg_wrap (wpAny_mono h₁ (fun _ s₂ h₂ => ?_) fun _ _ e => e.elim)
    show Seg _ A R Y n s₀ _ (Sem.wrap _ _ _ _ (assign target env v >>= _)) _ s₂
    rw [Sem.bind_eq_wrap', Sem.wrap_wrap]
    refine seg_wrap (wpAny_mono h₂ (fun _ s₃ h₃ => ?_) fun _ _ e => e.elim)
    show Seg _ A R Y n s₀ _ (Sem.wrap _ _ _ _ (execs body env >>= _)) _ s₃
    rw [Sem.bind_eq_wrap', Sem.wrap_wrap]
    rw [Sem.wrap_congr (execs body env) _ _ (K' := KL target it body env) (H' := HL env) (fun f => by cases f <;> rfl)
      (fun e => by first | exact Sem.bind_eq_wrap _ _ | (show (do noteFrame e env; theTreesLotGoes e : Sem Unit).bind (fun _ => .raise e) = _; rw [Sem.bind_eq_wrap]; rfl))]
    exact h₃
end
/-- what _iter_escaped_chars gives, from place i on -/
noncomputable def esc (i : Nat) (b : Bool) : List Nat → List (Nat × List Nat)
  | [] => if b then [(i - 1, [92])] else []
  | c :: cs => if b then (i, [92, c]) :: esc (i + 1) false cs else if c = 92 then esc (i + 1) true cs else (i, [c]) :: esc (i + 1) false cs
noncomputable section
open Classical
noncomputable def allObjs (h : Heap) : List (Addr × Obj) := (List.range h.objs.size).filterMap fun a => (h.get? a).map fun o => (a, o)
theorem mem_allObjs {h : Heap} {p : Addr × Obj} : p ∈ allObjs h ↔ h.get? p.1 = some p.2 := by
  unfold allObjs
  rw [List.mem_filterMap]
  constructor
  · rintro ⟨a, _, h'⟩
    cases e : h.get? a with
    | none => rw [e] at h'; cases h'
    | some o => rw [e] at h'; cases h'; exact e
  · intro e
    exact ⟨p.1, List.mem_range.mpr (Heap.lt_size e), by rw [e]; rfl⟩
/-- the generator's own kinds of object -/
noncomputable def OwnO (L : Addr) (p : Addr × Obj) : Prop := p.1 = L ∨ (∃ vs, p.2.data = .fields vs) ∧ (p.2.cls = .type "enumerate" ∨ p.2.cls = .type "str_ascii_iterator")
noncomputable def restOf (hb : Heap) (L : Addr) (h : Heap) : List (Addr × Obj) := (allObjs h).filter fun p => decide (¬ OwnO L p ∧ hb.get? p.1 = none)
noncomputable def ownOf' (hb : Heap) (L : Addr) (h : Heap) : List (Addr × Obj) := (allObjs h).filter fun p => decide (OwnO L p ∧ hb.get? p.1 = none)
theorem mem_restOf {hb h : Heap} {L : Addr} {p : Addr × Obj} : p ∈ restOf hb L h ↔ h.get? p.1 = some p.2 ∧ ¬ OwnO L p ∧ hb.get? p.1 = none := by
  unfold restOf; rw [List.mem_filter, mem_allObjs, decide_eq_true_iff]
theorem mem_ownOf' {hb h : Heap} {L : Addr} {p : Addr × Obj} : p ∈ ownOf' hb L h ↔ h.get? p.1 = some p.2 ∧ OwnO L p ∧ hb.get? p.1 = none := by
  unfold ownOf'; rw [List.mem_filter, mem_allObjs, decide_eq_true_iff]
end
/-- what of s₀ the generator leaves as it is -/
noncomputable def KeptBy (hb : Heap) (L : Addr) (s₀ s₁ : Shared) : Prop :=
  (∀ b o, hb.get? b = some o → s₁.heap.get? b = some o) ∧ (∀ b o, s₀.heap.get? b = some o → ¬ OwnO L (b, o) → s₁.heap.get? b = some o) ∧ s₁.gens = s₀.gens ∧ s₁.os = s₀.os
noncomputable def EscY (items : List (Nat × List Nat)) (hb : Heap) (L : Addr) : Protocol := fun n s₀ v s₁ kap =>
  ∃ (d : Addr) (p : Nat) (x : List Nat) (tp tx : Tok), v = .ref d ∧ items[items.length - (n + 1)]? = some (p, x) ∧ s₁.heap.get? d = some (tupOf #[.int (p : Int) tp, .str (T x) tx] 0) ∧ hb.get? d = none ∧
    KeptBy hb L s₀ s₁ ∧ (∀ b o, s₀.heap.get? b = some o → ¬ OwnO L (b, o) → b ≠ d) ∧
    ∀ s'', (∀ b o, hb.get? b = some o → s''.heap.get? b = some o) → (∀ b o, s₁.heap.get? b = some o → OwnO L (b, o) → s''.heap.get? b = some o) → kap (.send .none) s''
noncomputable def EscR (hb : Heap) (L : Addr) : GenEnd := fun n s₀ r s₁ => r = .ok (.ret .none) ∧ (n = 0 ∧ KeptBy hb L s₀ s₁)
noncomputable abbrev enumObj (it : Addr) (i : Int) (old : Value) : Obj := { cls := .type "enumerate", dict := none, data := .fields #[.none, .bool false, .ref it, rawInt i, .none, old], slots := #[] }
noncomputable abbrev enumOut (d it : Addr) (i : Int) (old : Value) : Obj := { cls := .type "enumerate", dict := none, data := .fields #[rawInt d, .bool false, .ref it, rawInt i, .none, old], slots := #[] }
section
variable {prog : Program} {w : World} {A : Around} {E : Value → Shared → Prop} {s : Shared} {g : Array GenState} {os : OsState} {h₀ : Heap} {L e it : Addr} {l : List (Str × Value)} {rest : List (Addr × Obj)}
theorem r_callEnum {a : List Nat} {t : Tok} {Q : Value → Shared → Prop} (S : St g os h₀ L l rest s) (ha : ∀ c ∈ a, c < 128)
    (h : ∀ e it oi s', StrIt (T a) t 0 oi → e ≠ it → (∀ p ∈ rest, p.1 < it ∧ p.1 < e) → St g os h₀ L l ((e, enumObj it 0 .none) :: (it, oi) :: rest) s' → Q (.ref e) s') :
    wpAny (model prog w) A (call (.type "enumerate") [.str (T a) t]) Q E s := by
  refine call_enumerate_str fun h' he hit hsz hk => ?_
  have hty : strIterType (T a) = "str_ascii_iterator" := by
    unfold strIterType
    have : (T a).cps.all (· < 128) = true := by simpa [T] using ha
    simp [this]
  rw [hty] at hit
  obtain ⟨oi, hoi, hc, hd⟩ := hit
  have hL := S.Llt
  refine h _ _ oi _ ⟨hc, hd⟩ (Nat.succ_ne_self _) (fun p hp => ⟨S.lt hp, Nat.lt_succ_of_lt (S.lt hp)⟩) ?_
  have S1 := S.grow (h' := h') hk s.toks
  refine ⟨S1.fr, fun p hp => ?_, S.gens, S.os⟩
  rcases List.mem_cons.mp hp with rfl | hp
  · exact ⟨he, Nat.ne_of_gt (Nat.lt_succ_of_lt hL), S.fresh (Nat.le_trans S.above (Nat.le_of_lt (Nat.lt_succ_of_lt hL)))⟩
  · rcases List.mem_cons.mp hp with rfl | hp
    · exact ⟨hoi, Nat.ne_of_gt hL, S.fresh (Nat.le_trans S.above (Nat.le_of_lt hL))⟩
    · exact S1.nw p hp
theorem r_iterEnum {old : Value} {i : Int} {Q : Value → Shared → Prop} (S : St g os h₀ L l ((e, enumObj it i old) :: rest) s) (h : Q (.ref e) s) : wpAny (model prog w) A (pyIter (.ref e)) Q E s :=
  wpAny_pyIter_enum (S.nw _ (.head _)).1 h
theorem r_nextEnum {a : List Nat} {t : Tok} {i : Nat} {oi : Obj} {old : Value} {Q : Option Value → Shared → Prop} (hh : A.handled = none) (hi : StrIt (T a) t i oi) (hle : i ≤ a.length) (hne : e ≠ it) (hd : ∀ p ∈ rest, p.1 ≠ e ∧ p.1 ≠ it)
    (S : St g os h₀ L l ((e, enumObj it i old) :: (it, oi) :: rest) s)
    (h1 : ∀ c, a[i]? = some c → ∀ d tk tx oi' s', StrIt (T a) t (i + 1) oi' → (∀ p ∈ rest, p.1 < d) → e < d → it < d →
      St g os h₀ L l ((d, tupOf #[.int (i : Int) tk, .str (T [c]) tx] 0) :: (e, enumOut d it ((i : Int) + 1) (.str (T [c]) tx)) :: (it, oi') :: rest) s' → Q (some (.ref d)) s')
    (h2 : a[i]? = none → ∀ s', St g os h₀ L l rest s' → Q none s') : wpAny (model prog w) A (pyNext (.ref e)) Q E s := by
  have he : IsEnum s.heap e it i old := (S.nw _ (.head _)).1
  have hit : s.heap.IsStrIter it "str_ascii_iterator" (T a) t i := ⟨oi, (S.nw _ (.tail _ (.head _))).1, hi.1, hi.2⟩
  have D := Draws.strAscii (prog := prog) (w := w) (A := A.in1) hh it (T a) t
  have hn : (T a).cps.size = a.length := T_len a
  have heL := (S.nw _ (.head _)).2.1
  have hitL := (S.nw _ (.tail _ (.head _))).2.1
  have he0 := (S.nw _ (.head _)).2.2
  have hit0 := (S.nw _ (.tail _ (.head _))).2.2
  have hel : e < s.heap.objs.size := Heap.lt_size he
  have hitl : it < s.heap.objs.size := Heap.lt_size (S.nw _ (.tail _ (.head _))).1
  cases hc : a[i]? with
  | some c =>
    have hlt : i < a.length := (List.getElem?_eq_some_iff.mp hc).1
    refine wpAny_pyNext_enum_itemD D he hit (by rw [hn]; exact hlt) hne (fun hm => hne (List.mem_singleton.mp hm)) fun x h' tk hx ho hst htup hsz hk => ?_
    obtain ⟨c', u, hc', rfl⟩ := hx
    have hcc : c' = c := by
      have : a[i]? = some c' := by simpa [T] using hc'
      rw [hc] at this; exact (Option.some.inj this).symm
    subst hcc
    obtain ⟨oi', hoi', hc1, hd1⟩ := hst
    refine h1 c' hc _ tk u oi' _ ⟨hc1, hd1⟩ (fun p hp => S.lt (.tail _ (.tail _ hp))) hel hitl ?_
    obtain ⟨oL, hoL, hfL⟩ := S.obj
    refine St.mk' (fun b o eb => hk b o ?_ ?_ (S.keep b o eb)) S.above (hk L oL (Ne.symm heL) (Ne.symm hitL) hoL) hfL (fun p hp => ?_) S.gens S.os
    · rintro rfl; rw [he0] at eb; cases eb
    · rintro rfl; rw [hit0] at eb; cases eb
    · rcases List.mem_cons.mp hp with rfl | hp
      · exact ⟨htup, Nat.ne_of_gt S.Llt, S.fresh (Nat.le_trans S.above (Nat.le_of_lt S.Llt))⟩
      · rcases List.mem_cons.mp hp with rfl | hp
        · exact ⟨ho, heL, he0⟩
        · rcases List.mem_cons.mp hp with rfl | hp
          · exact ⟨hoi', hitL, hit0⟩
          · exact ⟨hk _ _ (hd p hp).1 (hd p hp).2 (S.nw p (.tail _ (.tail _ hp))).1, (S.nw p (.tail _ (.tail _ hp))).2⟩
  | none =>
    have hin : i = a.length := Nat.le_antisymm hle (List.getElem?_eq_none_iff.mp hc)
    refine wpAny_pyNext_enum_endD D he (by rw [hn, ← hin]; exact hit) fun h' hs => ?_
    refine h2 hc _ ?_
    have S1 := S.drop (news' := rest) (fun p hp => .tail _ (.tail _ hp))
    exact S1.lost (fun p hp => (hd p hp).2) hitL hit0 hs s.toks
theorem r_letEnum {elts : List Expr} {x1 : Nat} {pos : Pos} {d : Addr} {tup : Obj} {i : Int} {item : Value} {Q : Unit → Shared → Prop} (hde : d ≠ e) (hd : ∀ p ∈ rest, p.1 ≠ e)
    (S : St g os h₀ L l ((d, tup) :: (e, enumOut d it i item) :: rest) s)
    (h : ∀ s', St g os h₀ L l ((d, tup) :: (e, enumObj it i item) :: rest) s' → Q () s') : wpAny (model prog w) A (letOwnedTupleGo (.Tuple elts x1 pos) (.ref e) (.ref d)) Q E s :=
  wpAny_letOwnedTupleGo_enum (S.nw _ (.tail _ (.head _))).1 fun h' he hs => h _ (S.change (.tail hde (.head hd)) hs he s.toks)
end
section
variable {M : Model} {A : Around} {R : GenEnd} {n : Nat} {s₀ s : Shared} {c : Code} {fs : List Frame} {g : Array GenState} {os : OsState} {hb : Heap} {L d : Addr} {l : List (Str × Value)} {own : List (Addr × Obj)} {items : List (Nat × List Nat)}
theorem St.kept (S : St g os hb L l (own ++ restOf hb L s₀.heap) s) (hg : s₀.gens = g) (ho : s₀.os = os) (hk : ∀ b o, hb.get? b = some o → s₀.heap.get? b = some o) : KeptBy hb L s₀ s := by
  refine ⟨S.keep, fun b o e hno => ?_, S.gens.trans hg.symm, S.os.trans ho.symm⟩
  cases h : hb.get? b with
  | none => exact (S.nw (b, o) (List.mem_append.mpr (.inr (mem_restOf.mpr ⟨e, hno, h⟩)))).1
  | some o' =>
    have := hk b o' h
    rw [e] at this
    rw [Option.some.inj this]
    exact S.keep b o' h
theorem esc_give {p : Nat} {x : List Nat} {tp tx : Tok} {kap : Resume → Shared → Prop} {K : Shared → Prop}
    (S : St g os hb L l ((d, tupOf #[.int (p : Int) tp, .str (T x) tx] 0) :: (own ++ restOf hb L s₀.heap)) s) (hg : s₀.gens = g) (ho : s₀.os = os) (hk : ∀ b o, hb.get? b = some o → s₀.heap.get? b = some o)
    (hd : ∀ q ∈ restOf hb L s₀.heap, q.1 < d) (hown : ∀ q ∈ own, OwnO L q) (hit : items[items.length - (n + 1)]? = some (p, x))
    (hkap : ∀ s'', K s'' → kap (.send .none) s'')
    (cont : ∀ s'', (∀ b o, hb.get? b = some o → s''.heap.get? b = some o) → St s''.gens s''.os hb L l (own ++ restOf hb L s''.heap) s'' → K s'') : EscY items hb L n s₀ (.ref d) s kap := by
  have S1 := S.drop (news' := own ++ restOf hb L s₀.heap) (fun q hq => .tail _ hq)
  refine ⟨d, p, x, tp, tx, rfl, hit, (S.nw _ (.head _)).1, (S.nw _ (.head _)).2.2, S1.kept hg ho hk, fun b o e hno hbd => ?_, fun s'' h1 h2 => ?_⟩
  · cases h : hb.get? b with
    | none => exact Nat.lt_irrefl _ (hbd ▸ hd _ (mem_restOf.mpr ⟨e, hno, h⟩) : b < b)
    | some o' => have := (S.nw _ (.head _)).2.2; rw [← hbd] at this; simp only at this; rw [h] at this; cases this
  · refine hkap s'' (cont s'' h1 ?_)
    obtain ⟨oL, hoL, hfL⟩ := S.obj
    have hL'' : s''.heap.get? L = some oL := h2 L oL hoL (.inl rfl)
    refine St.mk' h1 S.above hL'' hfL (fun q hq => ?_) rfl rfl
    rcases List.mem_append.mp hq with hq | hq
    · have hS := S1.nw q (List.mem_append.mpr (.inl hq))
      exact ⟨h2 _ _ hS.1 (hown q hq), hS.2⟩
    · obtain ⟨e1, e2, e3⟩ := mem_restOf.mp hq
      exact ⟨e1, fun h => e2 (.inl h), e3⟩
end
section
variable {w : World} {A : Around} {c : Code} {hb : Heap} {L : Addr} {a : List Nat} {ta : Tok}
theorem bs_eq : (Str.ofString "\\" : Str) = T [92] := by decide +kernel
set_option maxHeartbeats 4000000 in
theorem esc_loop {fname qual : Str} {params : Arguments} {body : List Stmt} {fscope : Scope} {dV kV doc pm cdv ct oc : Value} {an od : Option Addr} {osl : Array (Option Value)} {target iter : Expr} {fbody : List Stmt} {fpos : Pos}
    (ho : (KK w).lookup 35 = some ⟨oc, od, .func (fnOf fname qual params body fscope dV kV doc pm an cdv ct), osl⟩) (hf : body[2]? = some (.For target iter fbody [] fpos))
    {K : Flow → Sem Fin} {H : Value → Sem Fin} {gd : Bool → Bool} {lv : List Value → List Value} {p : Pos} {e it : Addr} (hne : e ≠ it)
    (hh : (marksOver [forFrame K H gd lv (envOf qual fscope L 35 cdv) c p] (A.handled, A.handled)).1 = none) (hgd : gd false = false) (hla : a.length ≤ 1000)
    (hK : ∀ b pv tp n s₀ s g os, (b = true → pv = (a.length : Int) - 1 ∧ 0 < a.length) → n = (esc a.length b []).length → (∃ don, esc 0 false a = don ++ esc a.length b []) →
      St g os hb L [("pos", .int pv tp), ("escape", .bool b)] (restOf hb L s₀.heap) s → s₀.gens = g → s₀.os = os →
      (∀ b o, hb.get? b = some o → s₀.heap.get? b = some o) → Seg (MM w) A (EscR hb L) (EscY (esc 0 false a) hb L) n s₀ c (K .next) [] s) :
    ∀ (cs pre : List Nat) (b : Bool) (pv : Int) (tp : Tok) (n : Nat) (s₀ s : Shared) (g : Array GenState) (os : OsState) (old : Value) (oi : Obj), a = pre ++ cs → n = (esc pre.length b cs).length → (∃ don, esc 0 false a = don ++ esc pre.length b cs) →
      (b = true → pv = (pre.length : Int) - 1 ∧ 0 < pre.length) → StrIt (T a) ta pre.length oi → (∀ q ∈ restOf hb L s₀.heap, q.1 ≠ e ∧ q.1 ≠ it) →
      St g os hb L [("pos", .int pv tp), ("escape", .bool b)] ((e, enumObj it (pre.length : Int) old) :: (it, oi) :: restOf hb L s₀.heap) s →
      s₀.gens = g → s₀.os = os → (∀ b o, hb.get? b = some o → s₀.heap.get? b = some o) →
      Seg (MM w) A (EscR hb L) (EscY (esc 0 false a) hb L) n s₀ (.forLoop target (.ref e) fbody [] (envOf qual fscope L 35 cdv)) ((MM w).den (.forLoop target (.ref e) fbody [] (envOf qual fscope L 35 cdv))) [forFrame K H gd lv (envOf qual fscope L 35 cdv) c p] s := by
  have e1 : (KK w).lookup 35 = some ⟨_, _, .func (fnOf _ _ _ _ _ _ _ _ _ _ _ _), _⟩ := rfl
  rw [e1] at ho
  cases ho
  cases hf
  intro cs
  induction cs with
  | nil =>
    intro pre b pv tp n s₀ s g os old oi ha hn hdon hpv hoi hne2 S hg hos hk
    rw [List.append_nil] at ha
    subst ha
    refine seg_turn (r_nextEnum hh hoi (Nat.le_refl _) hne hne2 S ?_ ?_)
    · intro c hc; simp at hc
    · intro _ s' S'
      exact hK b pv tp n s₀ s' g os hpv hn hdon S' hg hos hk
  | cons x xs ih =>
    intro pre b pv tp n s₀ s g os old oi ha hn hdon hpv hoi hne2 S hg hos hk
    have hlt : pre.length < a.length := by rw [ha]; simp
    have hx : a[pre.length]? = some x := by rw [ha]; simp
    have ha' : a = (pre ++ [x]) ++ xs := by rw [ha]; simp
    have hl' : (pre ++ [x]).length = pre.length + 1 := by simp
    refine seg_turn (r_nextEnum hh hoi (Nat.le_of_lt hlt) hne hne2 S ?_ ?_)
    rotate_left
    · intro hc; rw [hx] at hc; cases hc
    intro c' hc' d tk tx oi' s2 hoi' hd hed hitd S2
    rw [hx] at hc'
    cases hc'
    show wpAny _ _ (letOwnedTupleGo _ _ _) _ _ _
    refine r_letEnum (Nat.ne_of_gt hed) (fun q hq => ?_) S2 ?_
    · rcases List.mem_cons.mp hq with rfl | hq
      · exact hne.symm
      · exact (hne2 q hq).1
    intro s3 S3
    refine r_unpack hh S3 (.head _) rfl rfl ?_
    intro s4 S4
    have S4 := S4.drop (news' := (e, enumObj it ((pre.length : Int) + 1) (.str (T [x]) tx)) :: (it, oi') :: restOf hb L s₀.heap) (fun q hq => .tail _ hq)
    refine assignInOrder_cons ?_; refine r_assign (by assumption) ?_; intro _ _; refine assignInOrder_cons ?_
    refine r_assign (by assumption) ?_; intro _ _; refine assignInOrder_nil ?_
    refine seg_execs_cons (seg_If ?_)
    refine isTrue_plain ?_; refine r_name (by assumption) (by rfl) ?_; refine wpAny_truthy_bool ?_
    obtain ⟨don, hdon⟩ := hdon
    have hrd : ∀ q ∈ restOf hb L s₀.heap, q.1 < d := fun q hq => hd q hq
    cases b with
    | true =>
      refine Br.t ?_
      have hx1 : esc pre.length true (x :: xs) = (pre.length, [92, x]) :: esc (pre.length + 1) false xs := rfl
      rw [hx1, List.length_cons] at hn
      rw [hx1] at hdon
      subst hn
      refine seg_execs_cons (seg_Expr_Yield rfl rfl (by simp [forFrame, Frame.guarded, hgd]) ?_)
      refine Tuple_ ?_; refine args_cons ?_; refine r_name (by assumption) (by rfl) ?_; refine args_cons ?_; refine wpAny_BinOp ?_
      refine r_str (by assumption) ?_; intro _ _ _; refine r_name (by assumption) (by rfl) ?_
      refine r_adds (by assumption) ?_ ?_
      · rw [bs_eq, T_len, T_len, sizeLine_eq]; exact (by decide : 1 + 1 ≤ 16777216)
      intro t8 s8 S8
      rw [bs_eq, T_append]
      refine args_nil ?_; refine r_newTuple (by assumption) (by simp) ?_; intro _ _ _ _
      rename_i d9 s9 hd9 S9
      intro kap hkap
      refine esc_give (own := [(e, enumObj it ((pre.length : Int) + 1) (.str (T [x]) tx)), (it, oi')]) (p := pre.length) (x := [92, x]) S9 hg hos hk ?_ ?_ ?_ (fun s'' h => hkap .none s'' h) ?_
      · intro q hq; exact hd9 q (.tail _ (.tail _ hq))
      · intro q hq
        rcases List.mem_cons.mp hq with rfl | hq
        · exact .inr ⟨⟨_, rfl⟩, .inl rfl⟩
        · rcases List.mem_singleton.mp hq with rfl; exact .inr ⟨⟨_, hoi'.2⟩, .inr hoi'.1⟩
      · rw [hdon]; simp
      · intro s'' h1 S''
        refine seg_execs_cons (seg_wrap ?_)
        refine wpAny_Assign_Name ?_; refine Constant_bool ?_; refine r_store (by assumption) ?_; intro _ _
        refine seg_execs_nil ?_
        refine seg_again rfl ?_
        rename_i s10 S10
        have S11 := St.re (l' := [("pos", .int (pre.length : Int) tk), ("escape", .bool false)]) S10 ⟨rfl, rfl, trivial⟩
        have e5 : ((pre ++ [x]).length : Int) = (pre.length : Int) + 1 := by rw [hl']; rfl
        rw [← e5] at S11
        refine ih (pre ++ [x]) false _ tk _ s'' s10 s''.gens s''.os _ oi' ha' (by rw [hl']) ⟨don ++ [(pre.length, [92, x])], by rw [hdon, hl']; simp⟩ (fun h => by cases h) (by rw [hl']; exact hoi') (fun q hq => ?_) S11 rfl rfl h1
        obtain ⟨_, q2, _⟩ := mem_restOf.mp hq
        have he9 := (S''.nw _ (.head _)).1
        have hi9 := (S''.nw _ (.tail _ (.head _))).1
        obtain ⟨q1, _, _⟩ := mem_restOf.mp hq
        refine ⟨fun h => q2 ?_, fun h => q2 ?_⟩
        · have : q.2 = enumObj it ((pre.length : Int) + 1) (.str (T [x]) tx) := by rw [h] at q1; rw [he9] at q1; exact (Option.some.inj q1).symm
          exact .inr ⟨⟨_, by rw [this]⟩, .inl (by rw [this])⟩
        · have : q.2 = oi' := by rw [h] at q1; rw [hi9] at q1; exact (Option.some.inj q1).symm
          exact .inr ⟨⟨_, by rw [this]; exact hoi'.2⟩, .inr (by rw [this]; exact hoi'.1)⟩
    | false =>
      refine Br.f ?_
      refine seg_execs_cons (seg_If ?_)
      refine wpAny_isTrue_Compare1 ?_; refine r_name (by assumption) (by rfl) ?_; refine r_str (by assumption) ?_; intro _ _ _
      refine PyProof.Rows.eq_str ?_; refine wpAny_truthy_bool ?_
      rw [bs_eq, T_beq]
      refine Br.split (fun e2 => ?_) (fun e2 => ?_)
      · have e2' : x = 92 := by simpa using e2
        have hx1 : esc pre.length false (x :: xs) = esc (pre.length + 1) true xs := by simp [esc, e2']
        rw [hx1] at hn hdon
        refine seg_execs_cons (seg_wrap ?_)
        refine wpAny_Assign_Name ?_; refine Constant_bool ?_; refine r_store (by assumption) ?_; intro _ _
        refine seg_execs_nil (seg_execs_nil (seg_execs_nil (seg_again rfl ?_)))
        rename_i s10 S10
        have S11 := St.re (l' := [("pos", .int (pre.length : Int) tk), ("escape", .bool true)]) S10 ⟨rfl, rfl, trivial⟩
        have e5 : ((pre ++ [x]).length : Int) = (pre.length : Int) + 1 := by rw [hl']; rfl
        rw [← e5] at S11
        exact ih (pre ++ [x]) true _ tk _ s₀ s10 g os _ oi' ha' (by rw [hl']; exact hn) ⟨don, by rw [hdon, hl']⟩ (fun _ => ⟨by rw [e5]; omega, by rw [hl']; omega⟩) (by rw [hl']; exact hoi') hne2 S11 hg hos hk
      · have e2' : ¬ x = 92 := by simpa using e2
        have hx1 : esc pre.length false (x :: xs) = (pre.length, [x]) :: esc (pre.length + 1) false xs := by simp [esc, e2']
        rw [hx1, List.length_cons] at hn
        rw [hx1] at hdon
        subst hn
        refine seg_execs_cons (seg_Expr_Yield rfl rfl (by simp [forFrame, Frame.guarded, hgd]) ?_)
        refine Tuple_ ?_; refine args_cons ?_; refine r_name (by assumption) (by rfl) ?_; refine args_cons ?_
        refine r_name (by assumption) (by rfl) ?_; refine args_nil ?_; refine r_newTuple (by assumption) (by simp) ?_; intro _ _ _ _
        rename_i d9 s9 hd9 S9
        intro kap hkap
        refine esc_give (own := [(e, enumObj it ((pre.length : Int) + 1) (.str (T [x]) tx)), (it, oi')]) (p := pre.length) (x := [x]) S9 hg hos hk ?_ ?_ ?_ (fun s'' h => hkap .none s'' h) ?_
        · intro q hq; exact hd9 q (.tail _ (.tail _ hq))
        · intro q hq
          rcases List.mem_cons.mp hq with rfl | hq
          · exact .inr ⟨⟨_, rfl⟩, .inl rfl⟩
          · rcases List.mem_singleton.mp hq with rfl; exact .inr ⟨⟨_, hoi'.2⟩, .inr hoi'.1⟩
        · rw [hdon]; simp
        · intro s'' h1 S''
          refine seg_execs_nil (seg_execs_nil (seg_execs_nil (seg_again rfl ?_)))
          have S11 := St.re (l' := [("pos", .int (pre.length : Int) tk), ("escape", .bool false)]) S'' ⟨rfl, rfl, trivial⟩
          have e5 : ((pre ++ [x]).length : Int) = (pre.length : Int) + 1 := by rw [hl']; rfl
          rw [← e5] at S11
          refine ih (pre ++ [x]) false _ tk _ s'' s'' s''.gens s''.os _ oi' ha' (by rw [hl']) ⟨don ++ [(pre.length, [x])], by rw [hdon, hl']; simp⟩ (fun h => by cases h) (by rw [hl']; exact hoi') (fun q hq => ?_) S11 rfl rfl h1
          obtain ⟨_, q2, _⟩ := mem_restOf.mp hq
          have he9 := (S''.nw _ (.head _)).1
          have hi9 := (S''.nw _ (.tail _ (.head _))).1
          obtain ⟨q1, _, _⟩ := mem_restOf.mp hq
          refine ⟨fun h => q2 ?_, fun h => q2 ?_⟩
          · have : q.2 = enumObj it ((pre.length : Int) + 1) (.str (T [x]) tx) := by rw [h] at q1; rw [he9] at q1; exact (Option.some.inj q1).symm
            exact .inr ⟨⟨_, by rw [this]⟩, .inl (by rw [this])⟩
          · have : q.2 = oi' := by rw [h] at q1; rw [hi9] at q1; exact (Option.some.inj q1).symm
            exact .inr ⟨⟨_, by rw [this]; exact hoi'.2⟩, .inr (by rw [this]; exact hoi'.1)⟩
/-- the generator's whole run -/
theorem esc_seg {fname qual : Str} {params : Arguments} {body : List Stmt} {fscope : Scope} {dV kV doc pm cdv ct oc : Value} {an od : Option Addr} {osl : Array (Option Value)}
    (ho : (KK w).lookup 35 = some ⟨oc, od, .func (fnOf fname qual params body fscope dV kV doc pm an cdv ct), osl⟩)
    (B : Base w hb) (hh : A.handled = none) (haa : ∀ c ∈ a, c < 128) (hla : a.length ≤ 1000) {s : Shared}
    (S : St s.gens s.os hb L [("addr", .str (T a) ta)] (restOf hb L s.heap) s) :
    Seg (MM w) A (EscR hb L) (EscY (esc 0 false a) hb L) (esc 0 false a).length s (.func body (envOf qual fscope L 35 cdv)) ((MM w).den (.func body (envOf qual fscope L 35 cdv))) [] s := by
  have ho' := ho
  have e1 : (KK w).lookup 35 = some ⟨_, _, .func (fnOf _ _ _ _ _ _ _ _ _ _ _ _), _⟩ := rfl
  rw [e1] at ho'
  cases ho'
  have hh2 : ∀ c, (A.over c []).handled = none := fun _ => hh
  refine seg_func (seg_execs_cons (seg_wrap ?_))
  refine wpAny_Assign_Name ?_; refine r_int (by assumption) ?_; intro _ _ _; refine r_store (by assumption) ?_; intro _ _
  refine seg_execs_cons (seg_wrap ?_)
  refine wpAny_Assign_Name ?_; refine Constant_bool ?_; refine r_store (by assumption) ?_; intro _ _
  refine seg_execs_cons (seg_For (fun _ => rfl) ?_)
  refine Call_ ?_; refine r_builtin (by assumption) (by assumption) (by rfl) (by first | reg3_boot | boot_fact) (by decide) ?_
  refine PyProof.Rows.callWith_type1 ?_; refine args_cons ?_; refine r_name (by assumption) (by rfl) ?_; refine args_nil ?_
  refine r_callEnum (by assumption) haa ?_
  intro e it oi s2 hoi hne hlt S2
  refine r_iterEnum S2 ?_
  intro p
  refine esc_loop ho rfl hne ?_ rfl hla ?_ a [] false 0 _ _ s s2 s.gens s.os .none oi rfl rfl ⟨[], rfl⟩ (fun h => by cases h) hoi (fun q hq => ⟨Nat.ne_of_lt (hlt q hq).2, Nat.ne_of_lt (hlt q hq).1⟩) (St.re S2 ⟨rfl, rfl, trivial⟩) rfl rfl S.keep
  · exact hh
  intro b pv tp n s₀ s3 g os hpv hn hdon S3 hg hos hk
  refine seg_execs_cons (seg_If ?_)
  refine isTrue_plain ?_; refine r_name (by assumption) (by rfl) ?_; refine wpAny_truthy_bool ?_
  obtain ⟨don, hdon⟩ := hdon
  cases b with
  | true =>
    obtain ⟨hp1, hp2⟩ := hpv rfl
    refine Br.t ?_
    have hx1 : esc a.length true [] = [(a.length - 1, [92])] := rfl
    rw [hx1] at hn hdon
    subst hn
    refine seg_execs_cons (seg_Expr_Yield (n := 0) rfl rfl rfl ?_)
    refine Tuple_ ?_; refine args_cons ?_; refine r_name (by assumption) (by rfl) ?_; refine args_cons ?_
    refine r_str (by assumption) ?_; intro _ _ _; refine args_nil ?_; refine r_newTuple (by assumption) (by simp) ?_; intro _ _ _ _
    rename_i d9 s9 hd9 S9
    rw [bs_eq] at S9
    have e5 : pv = ((a.length - 1 : Nat) : Int) := by omega
    rw [e5] at S9
    intro kap hkap
    refine esc_give (own := []) (p := a.length - 1) (x := [92]) S9 hg hos hk (fun q hq => hd9 q hq) (fun q hq => by cases hq) (by rw [hdon]; simp) (fun s'' h => hkap .none s'' h) ?_
    intro s'' h1 S''
    refine seg_execs_nil (seg_execs_nil ?_)
    exact seg_end (.ok (.ret .none)) ⟨rfl, rfl, St.kept (own := []) S'' rfl rfl h1⟩
  | false =>
    refine Br.f ?_
    have hn0 : n = 0 := hn
    subst hn0
    refine seg_execs_nil (seg_execs_nil ?_)
    exact seg_end (.ok (.ret .none)) ⟨rfl, rfl, St.kept (own := []) S3 hg hos hk⟩
end
end Mine
end
section
open PySem PySem.W PyProof.Rows PySem.Calls
set_option Elab.async false
set_option maxRecDepth 100000
set_option maxHeartbeats 1000000
set_option linter.unusedVariables false
namespace Mine
/-- the table of generators, but for one -/
structure GRel (gi : Nat) (g g' : Array GenState) : Prop where
  size : g'.size = g.size
  other : ∀ j, j ≠ gi → g'[j]? = g[j]?
theorem GRel.refl (gi : Nat) (g : Array GenState) : GRel gi g g := ⟨rfl, fun _ _ => rfl⟩
theorem GRel.trans {gi : Nat} {a b c : Array GenState} (x : GRel gi a b) (y : GRel gi b c) : GRel gi a c := ⟨y.size.trans x.size, fun j h => (y.other j h).trans (x.other j h)⟩
theorem GRel.set (gi : Nat) (g : Array GenState) (x y : GenState) : GRel gi g ((g.setIfInBounds gi x).setIfInBounds gi y) :=
  ⟨by simp, fun j h => by rw [Array.getElem?_setIfInBounds_ne (Ne.symm h), Array.getElem?_setIfInBounds_ne (Ne.symm h)]⟩
theorem GRel.bare {g g' : Array GenState} {x : GenState} (h : GRel g.size (g.push x) g') (hf : g'[g.size]? = some .finished) (ha : AllBare g) : AllBare g' := by
  intro y hy
  obtain ⟨i, hi, rfl⟩ := Array.mem_iff_getElem.mp hy
  by_cases e : i = g.size
  · subst e
    rw [Array.getElem?_eq_getElem hi] at hf
    rw [Option.some.inj hf]; rfl
  · have h1 := h.other i e
    rw [Array.getElem?_eq_getElem hi] at h1
    have hlt : i < g.size := by have := h.size; simp at this; omega
    rw [Array.getElem?_push_lt hlt] at h1
    rw [Option.some.inj h1]
    exact ha _ (Array.getElem_mem hlt)
noncomputable abbrev genObj (gi : Nat) (t1 t2 : Tok) (n1 n2 : Str) : Obj := { cls := .type "generator", data := .fields #[.int gi 0, .str n1 t1, .str n2 t2] }
/-- the generator as its reader sees it -/
noncomputable def GI (w : World) (A : Around) (hb : Heap) (L : Addr) (items : List (Nat × List Nat)) (n : Nat) (own : List (Addr × Obj)) (gs : GenState) : Prop :=
  (∀ p ∈ own, OwnO L p) ∧ ∀ s'' : Shared, (∀ b o, hb.get? b = some o → s''.heap.get? b = some o) → (∀ p ∈ own, s''.heap.get? p.1 = some p.2) → gs.Goes (MM w) A.in1 (EscR hb L) (EscY items hb L) n (.send .none) s''
section
variable {w : World} {A : Around} {E : Value → Shared → Prop} {s : Shared} {g : Array GenState} {os : OsState} {hb : Heap} {Ls L ga : Addr} {l : List (Str × Value)} {own rest news : List (Addr × Obj)} {gi n : Nat} {gs : GenState} {t1 t2 : Tok} {n1 n2 : Str} {items : List (Nat × List Nat)} {a : List Nat}
/-- the generator's own code -/
noncomputable def genCode (w : World) (L : Addr) : Code := match (KK w).lookup 35 with
  | some ⟨_, _, .func fd, _⟩ => (match fd.body with
    | .stmts b => .func b (envOf fd.qualname fd.scope L 35 fd.code)
    | _ => .func [] (envOf fd.qualname fd.scope L 35 fd.code))
  | _ => .builtin "" ⟨[], []⟩
theorem r_callGen {t : Tok} {Q : Value → Shared → Prop} (B : Base w hb) (hh : A.handled = none) (hroom : A.depth < recursionLimit) (haa : ∀ c ∈ a, c < 128) (hla : a.length ≤ 1000) (S : St g os hb Ls l news s)
    (h : ∀ L ga own gs t1 t2 n1 n2 s', (∀ p ∈ news, p.1 < L) → Ls < L → L < ga → (∀ p ∈ own, p.1 = L) → GI w A hb L (esc 0 false a) (esc 0 false a).length own gs →
      St (g.push gs) os hb Ls l ((ga, genObj g.size t1 t2 n1 n2) :: (own ++ news)) s' → Q (.ref ga) s') : wpAny (MM w) A (call (.ref 35) [.str (T a) t]) Q E s := by
  have X := B.k.keeps S.keep
  have ho : (KK w).lookup 35 = some ⟨_, _, .func (fnOf _ _ _ _ _ _ _ _ _ _ _ _), _⟩ := rfl
  refine wpAny_call (codeAny_call_generator hroom (X _ _ ho) rfl rfl rfl rfl (codeRec_of X (by kernel_rfl)) ?_)
  refine wpAny_of_eq (a := [(("addr" : Str), Value.str (T a) t)]) rfl ?_
  refine wpAny_newFunctionEnv (by decide) (locs rfl) (fun h' hns hsb => ?_) rfl
  have old : ∀ b o, s.heap.get? b = some o → h'.get? b = some o := fun b o e => hsb.extBut b o (Nat.ne_of_lt (Heap.lt_size e)) (Heap.get?_push_of_some _ e)
  have hsz : h'.objs.size = s.heap.objs.size + 1 := by rw [hsb.1, Heap.size_push]
  refine ⟨(B.nolimit.keeps S.keep).keeps old, ?_⟩
  obtain ⟨oL, es, ep, hoL, hdL, hkL, hmL⟩ := hns
  have hfL : FrObj oL [("addr", .str (T a) t)] := ⟨es, ep, _, hdL, hkL, hmL, fun x v e => by
    show List.lookup x [("addr", Value.str (T a) t)] = some v
    exact e⟩
  have hLs := S.Llt
  rw [S.gens]
  refine' h s.heap.objs.size h'.objs.size [(s.heap.objs.size, oL)] (.fresh (genCode w s.heap.objs.size)) (s.toks + 1) (s.toks + 1 + 1) "_iter_escaped_chars" "_iter_escaped_chars" _ (fun p hp => S.lt hp) hLs ?k1 ?k2 ?k3 ?sf
  case sf =>
    obtain ⟨oS, hoS, hfS⟩ := S.obj
    have up : ∀ (ob : Obj) b o, s.heap.get? b = some o → (h'.push ob).get? b = some o := fun ob b o e => Heap.get?_push_of_some _ (old b o e)
    refine St.mk' (fun b o e => up _ b o (S.keep b o e)) S.above (up _ Ls oS hoS) hfS (fun p hp => ?_) rfl S.os
    rcases List.mem_cons.mp hp with rfl | hp
    · exact ⟨Heap.get?_push_size _ rfl, by rw [hsz]; exact Nat.ne_of_gt (Nat.lt_succ_of_lt hLs), S.fresh (by rw [hsz]; exact Nat.le_trans S.above (Nat.le_of_lt (Nat.lt_succ_of_lt hLs)))⟩
    · rcases List.mem_cons.mp hp with rfl | hp
      · exact ⟨Heap.get?_push_of_some _ hoL, Nat.ne_of_gt hLs, S.fresh (Nat.le_trans S.above (Nat.le_of_lt hLs))⟩
      · exact ⟨up _ _ _ (S.nw p hp).1, (S.nw p hp).2⟩
  case k1 => rw [hsz]; exact Nat.lt_succ_self _
  case k2 => intro p hp; rcases List.mem_singleton.mp hp with rfl; rfl
  case k3 =>
    refine ⟨fun p hp => by rcases List.mem_singleton.mp hp with rfl; exact .inl rfl, fun s'' h1 h2 => ⟨rfl, ?_⟩⟩
    show Seg (MM w) A.in1 _ _ _ _ (genCode w s.heap.objs.size) ((MM w).den (genCode w s.heap.objs.size)) _ _
    have hc : genCode w s.heap.objs.size = .func _ (envOf _ _ s.heap.objs.size 35 _) := rfl
    rw [hc]
    refine esc_seg (A := A.in1) ho B hh haa hla (St.mk' h1 (Nat.le_trans S.above (Nat.le_of_lt hLs)) (h2 _ (.head _)) hfL (fun p hp => ?_) rfl rfl)
    obtain ⟨e1, e2, e3⟩ := mem_restOf.mp hp
    exact ⟨e1, fun h => e2 (.inl h), e3⟩
theorem r_iterGen {Q : Value → Shared → Prop} (S : St g os hb Ls l ((ga, genObj gi t1 t2 n1 n2) :: rest) s) (h : Q (.ref ga) s) : wpAny (MM w) A (pyIter (.ref ga)) Q E s :=
  wpAny_pyIter_gen (g := gi) ⟨_, _, _, (S.nw _ (.head _)).1, rfl, rfl, rfl⟩ h
theorem r_nextGen {Q : Option Value → Shared → Prop} (B : Base w hb) (hh : A.handled = none) (hroom : A.depth < recursionLimit) (S : St g os hb Ls l ((ga, genObj gi t1 t2 n1 n2) :: (own ++ rest)) s) (hg : g[gi]? = some gs) (G : GI w A hb L items n own gs)
    (hrest : ∀ p ∈ rest, ¬ OwnO L p) (hLs : Ls ≠ L) (hga : ga ≠ L)
    (h1 : ∀ m, n = m + 1 → ∀ d p x tp tx own' gs' g' s', items[items.length - n]? = some (p, x) → GI w A hb L items m own' gs' → GRel gi g g' → g'[gi]? = some gs' → (∀ q ∈ rest, q.1 ≠ d) → d ≠ ga →
      St g' os hb Ls l ((d, tupOf #[.int (p : Int) tp, .str (T x) tx] 0) :: (ga, genObj gi t1 t2 n1 n2) :: (own' ++ rest)) s' → Q (some (.ref d)) s')
    (h2 : n = 0 → ∀ g' s', GRel gi g g' → g'[gi]? = some .finished → St g' os hb Ls l rest s' → Q none s') : wpAny (MM w) A (pyNext (.ref ga)) Q E s := by
  have hgs : s.gens[gi]? = some gs := by rw [S.gens]; exact hg
  have hlt : gi < g.size := (Array.getElem?_eq_some_iff.mp hg).1
  have hself : ∀ x y, ((g.setIfInBounds gi x).setIfInBounds gi y)[gi]? = some y := fun x y => by rw [Array.getElem?_setIfInBounds_self_of_lt (by simpa using hlt)]
  have hIs : s.heap.IsGen ga gi := ⟨_, _, _, (S.nw _ (.head _)).1, rfl, rfl, rfl⟩
  have hno : ¬ OwnO L (ga, genObj gi t1 t2 n1 n2) := by
    rintro (h | ⟨_, h | h⟩)
    · exact hga h
    · simp at h
    · simp at h
  obtain ⟨oS, hoS, hfS⟩ := S.obj
  have hnoS : ¬ OwnO L (Ls, oS) := by
    rintro (h | ⟨⟨vs, h⟩, _⟩)
    · exact hLs h
    · obtain ⟨es, ep, m, hd, _⟩ := hfS; rw [h] at hd; cases hd
  have hgo := G.2 (s.setGen gi .running) S.keep (fun p hp => (S.nw p (.tail _ (List.mem_append.mpr (.inl hp)))).1)
  -- the reader's own things stay
  have stay : ∀ s₁, KeptBy hb L (s.setGen gi .running) s₁ → ∀ y g₁, g₁ = (g.setIfInBounds gi .running).setIfInBounds gi y → ∀ N, (∀ p ∈ N, p = (ga, genObj gi t1 t2 n1 n2) ∨ p ∈ rest) → St g₁ os hb Ls l N (s₁.setGen gi y) := by
    rintro s₁ ⟨k1, k2, k3, k4⟩ y g₁ rfl N hN
    refine St.mk' k1 S.above (k2 Ls oS hoS hnoS) hfS (fun p hp => ?_) (by show s₁.gens.setIfInBounds gi y = _; rw [k3]; show (s.gens.setIfInBounds gi .running).setIfInBounds gi y = _; rw [S.gens]) (k4.trans S.os)
    rcases hN p hp with rfl | hp
    · exact ⟨k2 _ _ (S.nw _ (.head _)).1 hno, (S.nw _ (.head _)).2⟩
    · have := S.nw p (.tail _ (List.mem_append.mpr (.inr hp)))
      exact ⟨k2 _ _ this.1 (hrest p hp), this.2⟩
  refine wpAny_pyNext_gen hh (B.nolimit.keeps S.keep) hroom hIs hgs hgo (fun v s₁ gs' hY => ?_) (fun s₁ hP h' hk' => ?_)
  · obtain ⟨d, p, x, tp, tx, rfl, hit, htup, hdb, hkept, hdne, hkap⟩ := hY
    cases n with
    | zero => exact (hkap s₁ hkept.1 (fun _ _ e _ => e)).elim
    | succ m =>
      have S1 := stay s₁ hkept gs' _ rfl ((ga, genObj gi t1 t2 n1 n2) :: rest) (fun p hp => by
        rcases List.mem_cons.mp hp with rfl | hp
        · exact .inl rfl
        · exact .inr hp)
      refine h1 m rfl d p x tp tx (ownOf' hb L s₁.heap) gs' _ _ hit ⟨fun p hp => (mem_ownOf'.mp hp).2.1, fun s'' j1 j2 => ?_⟩ (GRel.set gi g .running gs') (hself _ _) (fun q hq => ?_) ?_ ?_
      · refine hkap s'' j1 fun b o e ho => ?_
        cases hbb : hb.get? b with
        | none => exact j2 (b, o) (mem_ownOf'.mpr ⟨e, ho, hbb⟩)
        | some o' =>
          have := hkept.1 b o' hbb
          rw [e] at this
          rw [Option.some.inj this]
          exact j1 b o' hbb
      · exact hdne q.1 q.2 (S.nw q (.tail _ (List.mem_append.mpr (.inr hq)))).1 (hrest q hq)
      · exact (hdne ga _ (S.nw _ (.head _)).1 hno).symm
      · refine ⟨S1.fr, fun q hq => ?_, S1.gens, S1.os⟩
        rcases List.mem_cons.mp hq with rfl | hq
        · exact ⟨htup, (hdne Ls oS hoS hnoS).symm, hdb⟩
        · rcases List.mem_cons.mp hq with rfl | hq
          · exact S1.nw _ (.head _)
          · rcases List.mem_append.mp hq with hq | hq
            · obtain ⟨e1, e2, e3⟩ := mem_ownOf'.mp hq
              refine ⟨e1, ?_, e3⟩
              rintro hqL
              have hoS1 := hkept.2.1 Ls oS hoS hnoS
              rw [← hqL] at hoS1
              rw [e1] at hoS1
              have : q = (Ls, oS) := Prod.ext hqL (Option.some.inj hoS1)
              exact hnoS (this ▸ e2)
            · exact S1.nw _ (.tail _ hq)
  · obtain ⟨hn0, hkept⟩ := hP
    have S1 := stay s₁ hkept .finished _ rfl rest (fun p hp => .inr hp)
    exact h2 hn0 _ _ (GRel.set gi g .running .finished) (hself _ _) (S1.grow (h' := h') hk' s₁.toks)
end
end Mine
end
section
open PySem PySem.W PyProof.Rows PySem.Calls
set_option Elab.async false
set_option maxRecDepth 100000
set_option maxHeartbeats 1000000
set_option linter.unusedVariables false
namespace Mine
theorem T_slice_lohi' (a : List Nat) (i j : Nat) : Txt.slice (T a) (some (i : Int)) (some (j : Int)) = T ((a.take j).drop i) := by
  by_cases h : i ≤ j
  · exact T_slice_lohi a i j h
  · have e : Builtin.Str.strSliceIndices (some (i : Int)) (some (j : Int)) 1 (T a).length = [] := by
      unfold Builtin.Str.strSliceIndices sliceRange
      simp only [show (1 : Int) > 0 by decide, if_true]
      rw [List.map_eq_nil_iff, List.range_eq_nil]
      split <;> (try split) <;> (try split) <;> first | rfl | (rw [Int.add_sub_cancel, Int.ediv_one]; omega)
    have e2 : (a.take j).drop i = [] := by rw [List.drop_eq_nil_iff]; simp; (clear e; omega)
    unfold Txt.slice
    rw [e, e2]
    split
    · rename_i hc
      have : a = [] := by
        have h0 : 0 = a.length := by simpa [T_len] using hc
        exact List.length_eq_zero_iff.mp h0.symm
      rw [this]
    · rfl
noncomputable def strF (a : List Nat) : List (Nat × List Nat) → Nat → Option Nat → List (List Nat) → Nat × List (List Nat)
  | [], st, _, r => (st, r)
  | (p, x) :: q, st, op, r => if x = [34] then (match op with
      | none => strF a q st (some p) r
      | some o => strF a q (p + 1) none (if st = o then r else r ++ [(a.take o).drop st])) else strF a q st op r
noncomputable def strip (a : List Nat) : List Nat :=
  if a.contains 34 then
    let q := strF a (esc 0 false a) 0 none []
    (if q.1 < a.length then q.2 ++ [a.drop q.1] else q.2).flatten
  else a
theorem esc_len (i : Nat) (b : Bool) (cs : List Nat) : (esc i b cs).length ≤ cs.length + 1 := by
  induction cs generalizing i b with
  | nil => cases b <;> simp [esc]
  | cons c r ih =>
    have h1 := ih (i + 1) false
    have h2 := ih (i + 1) true
    cases b with
    | true => show (_ :: esc (i + 1) false r).length ≤ _; simp only [List.length_cons]; (clear h2; omega)
    | false =>
      by_cases hc : c = 92
      · rw [show esc i false (c :: r) = esc (i + 1) true r by simp [esc, hc]]; simp only [List.length_cons]; (clear h1 hc; omega)
      · rw [show esc i false (c :: r) = (i, [c]) :: esc (i + 1) false r by simp [esc, hc]]; simp only [List.length_cons]; (clear h2 hc; omega)
theorem flat_len (n : Nat) : ∀ r : List (List Nat), (∀ x ∈ r, x.length ≤ n) → r.flatten.length ≤ n * r.length
  | [], _ => by simp
  | x :: r, h => by
    have h1 := flat_len n r fun y hy => h y (.tail _ hy)
    have h2 := h x (.head _)
    rw [List.flatten_cons, List.length_append, List.length_cons, Nat.mul_succ]; omega
noncomputable def OV (op : Option Nat) (v : Value) : Prop := match op with
  | none => v = .none
  | some o => ∃ t, v = .int (o : Int) t
theorem dq_eq : (Str.ofString "\"" : Str) = T [34] := by decide +kernel
theorem em_eq : (Str.ofString "" : Str) = T [] := by decide +kernel
section
variable {prog : Program} {w : World} {A : Around} {E : Value → Shared → Prop} {s : Shared}
theorem r_notinT {c : Nat} {a : List Nat} {t u : Tok} {Q : Value → Shared → Prop} (h : Q (.bool (!a.contains c)) s) : wpAny (model prog w) A (compareOp .NotIn (.str (T [c]) u) (.str (T a) t)) Q E s := by
  refine PyProof.Rows.notIn_str ?_
  have : (!(Builtin.Str.occurrences (T a) (T [c]) 0 (T a).length 1).isEmpty) = a.contains c := by
    rw [show T [c] = ⟨#[c]⟩ from rfl, StrLaws.found_one, Bool.eq_iff_iff, decide_eq_true_eq, List.contains_iff_mem]
    simp [T]
  rw [this]
  exact h
end
section
variable {prog : Program} {w : World} {A : Around} {E : Value → Shared → Prop} {s : Shared} {g : Array GenState} {os : OsState} {h₀ : Heap} {L ga d : Addr} {l : List (Str × Value)} {news : List (Addr × Obj)} {gi : Nat} {t1 t2 : Tok} {n1 n2 : Str}
theorem r_getAppend {D : Addr} {its : Array Value} {n : Nat} {pl : Sem Bool} {Q : Value × List Value → Shared → Prop} (S : St g os h₀ L l news s) (hm : (D, listOf its n) ∈ news) (h : Q (.builtin "list.append", [.ref D]) s) :
    wpAny (model prog w) A (getMethod (.ref D) "append" pl) Q E s := listMethod_K S.nw hm PySem.F.slot_list_append PySem.F.type_list_append h
theorem r_letGen {elts : List Expr} {x1 : Nat} {pos : Pos} {Q : Unit → Shared → Prop} (S : St g os h₀ L l news s) (hm : (ga, genObj gi t1 t2 n1 n2) ∈ news) (h : Q () s) :
    wpAny (model prog w) A (letOwnedTupleGo (.Tuple elts x1 pos) (.ref ga) (.ref d)) Q E s := by
  unfold letOwnedTupleGo
  refine wpAny_bind (wpAny_load (S.nw _ hm).1 ?_)
  exact wpAny_pure h
end
section
variable {w : World} {A : Around} {s : Shared}
/-- what a call that runs generators to their end leaves -/
structure GrowG (s s' : Shared) : Prop where
  keep : ∀ b o, s.heap.get? b = some o → s'.heap.get? b = some o
  os : s'.os = s.os
  bare : AllBare s.gens → AllBare s'.gens
set_option maxHeartbeats 4000000 in
theorem strip_spec {a : List Nat} {t : Tok} {Q : Value → Shared → Prop} (B : Base w s.heap) (hh : A.handled = none) (hr : A.depth + 10 < recursionLimit) (haa : ∀ x ∈ a, x < 128) (hla : a.length ≤ 100)
    (h : ∀ t s', GrowG s s' → Q (.str (T (strip a)) t) s') : wpAny (MM w) A (call (.ref 42) [.str (T a) t]) Q NoE s := by
  have hA : (T a).length ≤ 1000000 := by rw [T_len]; (clear hh hr; omega)
  refine r_callP (binds := [("addr", .str (T a) t)]) rfl rfl rfl rfl B (by (clear hh hla hA; omega)) (fun L s₁ S => ?_)
  refine r_cons ?_; refine r_if ?_; refine wpAny_isTrue_Compare1 ?_; refine r_str (by assumption) ?_; intro _ _ _
  refine r_name (by assumption) (by rfl) ?_
  rw [dq_eq]
  refine r_notinT ?_
  refine wpAny_truthy_bool ?_
  refine Br.split (fun e => ?_) (fun e => ?_)
  · have e' : ¬ a.contains 34 = true := by simpa using e
    refine r_cons ?_; refine wpAny_Return_some ?_; refine r_name (by assumption) (by rfl) ?_; refine SeqQ.ret ?_; refine SeqQ.ret ?_
    refine RetQ.ret ?_
    have S9 := St.out (by assumption)
    have := h t _ ⟨S9.keep, S9.os, fun hb => by rw [S9.gens]; exact hb⟩
    simpa only [strip, if_neg e'] using this
  have e' : a.contains 34 = true := by simpa using e
  refine r_nil ?_; refine SeqQ.go ?_; refine r_cons ?_; refine wpAny_Assign_Name ?_; refine r_int (by assumption) ?_; intro _ _ _
  refine r_store (by assumption) ?_; intro _ _; refine SeqQ.go ?_; refine r_cons ?_; refine wpAny_Assign_Name ?_; refine Constant_none ?_
  refine r_store (by assumption) ?_; intro _ _; refine SeqQ.go ?_; refine r_cons ?_; refine wpAny_Assign_Name ?_; refine List_ ?_
  refine args_nil ?_; refine r_newList (by assumption) (by simp) ?_; intro _ _ _ _; refine r_store (by assumption) ?_; intro _ _
  refine SeqQ.go ?_; refine r_cons ?_
  rename_i D s2 hD S2 s3 S3
  refine r_for ?_
  refine Call_ ?_; refine r_global (by assumption) (by assumption) (gviterescapedchars _) ?_
  refine r_callK (by assumption) (by assumption) (by rfl) ?_; refine args_cons ?_; refine r_name (by assumption) (by rfl) ?_; refine args_nil ?_
  refine k_and (by assumption) (by assumption) ?_
  refine r_callGen B hh (by show A.depth + 1 < _; (clear hh hla hA e e'; omega)) haa (by (clear hh hr hA e e'; omega)) S3 ?_
  intro Lg ga own gs u1 u2 m1 m2 s4 hLg hLs hga hown G S4
  refine r_iterGen S4 ?_
  have hDL : D < Lg := hLg _ (.head _)
  have hnoD : ∀ ys ep, ¬ OwnO Lg (D, listOf ys ep) := by
    rintro ys ep (h | ⟨⟨vs, h⟩, _⟩)
    · exact Nat.ne_of_lt hDL h
    · cases h
  have hitl : (esc 0 false a).length ≤ 101 := Nat.le_trans (esc_len 0 false a) (by (clear hh hr hA e e' hLs hga hDL; omega))
  refine ForQ.of (fun n s' => ∃ (q don : List (Nat × List Nat)) (gs' : GenState) (own : List (Addr × Obj)) (g' : Array GenState) (ov : Value) (op : Option Nat) (st : Nat) (r : List (List Nat)) (ys : Array Value) (ep : Nat) (ts : Tok),
      St g' s.os s.heap L [("start", .int (st : Int) ts), ("open_pos", ov), ("result", .ref D), ("addr", .str (T a) t)] ((ga, genObj s.gens.size u1 u2 m1 m2) :: (own ++ [(D, listOf ys ep)])) s' ∧ GI w (A.deeper _) s.heap Lg (esc 0 false a) n own gs' ∧
      g'[s.gens.size]? = some gs' ∧ GRel s.gens.size (s.gens.push gs) g' ∧ OV op ov ∧ Rel2 TV r ys.toList ∧ esc 0 false a = don ++ q ∧ n = q.length ∧ r.length ≤ don.length ∧ (∀ x ∈ r, x.length ≤ 100) ∧
      strF a (esc 0 false a) 0 none [] = strF a q st op r)
    (fun s' => ∃ (g' : Array GenState) (st : Nat) (r : List (List Nat)) (ys : Array Value) (ep : Nat) (ts : Tok), St g' s.os s.heap L [("start", .int (st : Int) ts), ("result", .ref D), ("addr", .str (T a) t)] [(D, listOf ys ep)] s' ∧
      (AllBare s.gens → AllBare g') ∧ Rel2 TV r ys.toList ∧ r.length ≤ 101 ∧ (∀ x ∈ r, x.length ≤ 100) ∧ strF a (esc 0 false a) 0 none [] = (st, r))
    _ ⟨esc 0 false a, [], gs, own, s.gens.push gs, .none, none, 0, [], #[], 0, _, St.re S4 ⟨rfl, rfl, rfl, rfl, trivial⟩, G, by simp, GRel.refl _ _, rfl, .nil, rfl, rfl, Nat.le_refl _, fun _ h => (nomatch h), rfl⟩ ?_ ?_
  · rintro n Tv Xv hTv hXv s5 ⟨q, don, gs', own, g', ov, op, st, r, ys, ep, ts, S5, G5, hg5, hrel, hov, hR, hdon, rfl, hrl, hx100, hF⟩
    refine r_nextGen B hh (by show A.depth + 1 < _; (clear hh hla hA e e' hLs hga hDL hitl hg5 hdon hrl hF; omega)) S5 hg5 G5 (fun p hp => by rcases List.mem_singleton.mp hp with rfl; exact hnoD _ _) (Nat.ne_of_lt hLs) (Nat.ne_of_gt hga) ?_ ?_
    · intro m hm d p x tp tx own' gs2 g2 s6 hit G6 hrel2 hg6 hrd hdga S6
      have hitems : (esc 0 false a).length - q.length = don.length := by rw [hdon]; simp
      rw [hitems, hdon] at hit
      cases q with
      | nil => simp at hm
      | cons y q' =>
      have hy : y = (p, x) := by simpa using hit
      subst hy
      have hm' : m = q'.length := by simpa using hm.symm
      subst hm'
      show wpAny _ _ (letOwnedTupleGo _ _ _) _ _ _
      refine r_letGen S6 (.tail _ (.head _)) ?_
      refine r_unpack hh S6 (.head _) rfl rfl ?_
      intro s7 S7
      have hDown : ∀ p ∈ own', p.1 ≠ D := by
        intro p' hp' he
        have h1 := (S7.nw p' (.tail _ (.tail _ (List.mem_append.mpr (.inl hp'))))).1
        have h2 := (S7.nw (D, listOf ys ep) (.tail _ (.tail _ (List.mem_append.mpr (.inr (.head _)))))).1
        rw [he] at h1
        have h3 : some p'.2 = some (listOf ys ep) := h1.symm.trans h2
        have : p' = (D, listOf ys ep) := Prod.ext he (Option.some.inj h3)
        exact hnoD ys ep (this ▸ G6.1 p' hp')
      have hDga : ga ≠ D := Nat.ne_of_gt (Nat.lt_trans hDL hga)
      have S8 := S7.drop (news' := (D, listOf ys ep) :: (ga, genObj s.gens.size u1 u2 m1 m2) :: own') (fun z hz => by
        rcases List.mem_cons.mp hz with rfl | hz
        · exact .tail _ (.tail _ (List.mem_append.mpr (.inr (.head _))))
        · rcases List.mem_cons.mp hz with rfl | hz
          · exact .tail _ (.head _)
          · exact .tail _ (.tail _ (List.mem_append.mpr (.inl hz))))
      have back : ∀ {ys' ep' l' s'}, St g2 s.os s.heap L l' ((D, listOf ys' ep') :: (ga, genObj s.gens.size u1 u2 m1 m2) :: own') s' → St g2 s.os s.heap L l' ((ga, genObj s.gens.size u1 u2 m1 m2) :: (own' ++ [(D, listOf ys' ep')])) s' := fun S => S.drop (fun z hz => by
        rcases List.mem_cons.mp hz with rfl | hz
        · exact .tail _ (.head _)
        · rcases List.mem_append.mp hz with hz | hz
          · exact .tail _ (.tail _ hz)
          · rcases List.mem_singleton.mp hz with rfl; exact .head _)
      have hdon' : esc 0 false a = (don ++ [(p, x)]) ++ q' := by rw [hdon]; simp
      refine assignInOrder_cons ?_; refine r_assign (by assumption) ?_; intro _ _; refine assignInOrder_cons ?_
      refine r_assign (by assumption) ?_; intro _ _; refine assignInOrder_nil ?_; refine r_cons ?_; refine r_if ?_; refine wpAny_isTrue_Compare1 ?_
      refine r_name (by assumption) (by rfl) ?_; refine r_str (by assumption) ?_; intro _ _ _; refine PyProof.Rows.eq_str ?_
      refine wpAny_truthy_bool ?_
      rw [T_beq]
      refine Br.split (fun e1 => ?_) (fun e1 => ?_)
      · have e1' : x = [34] := by simpa using e1
        refine r_cons ?_; refine r_if ?_; refine wpAny_isTrue_Compare1 ?_; refine r_name (by assumption) (by rfl) ?_; refine Constant_none ?_
        cases op with
        | none =>
          rw [show strF a ((p, x) :: q') st none r = strF a q' st (some p) r by simp only [strF, if_pos e1']] at hF
          have hov' : ov = .none := hov
          subst hov'
          refine is_none_none ?_
          refine wpAny_truthy_bool ?_
          refine Br.t ?_
          refine r_cons ?_; refine wpAny_Assign_Name ?_; refine r_name (by assumption) (by rfl) ?_; refine r_store (by assumption) ?_; intro _ _
          refine SeqQ.go ?_; refine r_nil ?_; refine SeqQ.go ?_; refine r_nil ?_; refine SeqQ.go ?_; refine r_nil ?_
          exact hTv _ _ ⟨q'.length, Nat.lt_succ_self _, q', don ++ [(p, x)], gs2, own', g2, _, some p, st, r, ys, ep, ts, back (St.re (by assumption) ⟨rfl, rfl, rfl, rfl, trivial⟩), G6, hg6, hrel.trans hrel2, ⟨_, rfl⟩, hR, hdon', rfl, by simp; (clear hh hr hla hA e e' hLs hga hDL hitl hg5 hg6 hdga hdon hit hm hDga hdon' e1 e1' hF; omega), hx100, hF⟩
        | some o =>
          rw [show strF a ((p, x) :: q') st (some o) r = strF a q' (p + 1) none (if st = o then r else r ++ [(a.take o).drop st]) by simp only [strF, if_pos e1']] at hF
          obtain ⟨to, rfl⟩ := hov
          refine is_int_none ?_
          refine wpAny_truthy_bool ?_
          refine Br.f ?_
          refine r_cons ?_; refine r_if ?_; refine wpAny_isTrue_Compare1 ?_; refine r_name (by assumption) (by rfl) ?_
          refine r_name (by assumption) (by rfl) ?_; refine PyProof.Rows.ne_int ?_; refine wpAny_truthy_bool ?_
          refine Br.split (fun e2 => ?_) (fun e2 => ?_)
          · have e2' : ¬ st = o := by intro hc; rw [hc] at e2; simp at e2
            rw [if_neg e2'] at hF
            refine r_cons ?_; refine wpAny_Expr ?_; refine MethodCall_ ?_; refine r_name (by assumption) (by rfl) ?_
            refine r_getAppend (by assumption) (by first | assumption | (repeat (first | exact List.Mem.head _ | apply List.Mem.tail))) ?_
            refine PyProof.Rows.callWith_method1 ?_; refine args_cons ?_; refine Subscript_ ?_; refine r_name (by assumption) (by rfl) ?_
            refine r_slice ?_; refine r_part1 ?_; refine r_name (by assumption) (by rfl) ?_; refine r_part1 ?_; refine r_name (by assumption) (by rfl) ?_
            refine r_part0 ?_; refine r_sliceS_ss (by assumption) (by assumption) ?_; intro _ _ _; refine args_nil ?_
            change wpAny _ _ (call _ [_, _]) _ _ _
            rw [T_slice_lohi']
            skip
            refine r_append (by assumption) (.head (fun z hz => ?_)) ?_ ?_
            · rcases List.mem_cons.mp hz with rfl | hz
              · exact hDga
              · exact hDown z hz
            · have := hR.length; rw [Array.length_toList] at this; rw [hdon] at hitl; simp at hitl; (clear hh hr hla hA e e' hLs hga hDL hg5 hg6 hdga hdon hit hm hDga hdon' e1 e1' hF e2 e2'; omega)
            intro s9 S9
            refine SeqQ.go ?_; refine r_nil ?_; refine SeqQ.go ?_; refine r_cons ?_; refine wpAny_Assign_Name ?_; refine wpAny_BinOp ?_
            refine r_name (by assumption) (by rfl) ?_; refine r_int (by assumption) ?_; intro _ _ _; refine r_add (by assumption) ?_; intro _ _ _
            refine r_store (by assumption) ?_; intro _ _; refine SeqQ.go ?_; refine r_cons ?_; refine wpAny_Assign_Name ?_; refine Constant_none ?_
            refine r_store (by assumption) ?_; intro _ _; refine SeqQ.go ?_; refine r_nil ?_; refine SeqQ.go ?_; refine r_nil ?_; refine SeqQ.go ?_
            refine r_nil ?_
            refine hTv _ _ ⟨q'.length, Nat.lt_succ_self _, q', don ++ [(p, x)], gs2, own', g2, .none, none, p + 1, _, _, _, _, back (St.re (by assumption) ⟨rfl, rfl, rfl, rfl, trivial⟩), G6, hg6, hrel.trans hrel2, rfl, ?_, hdon', rfl, ?_, ?_, hF⟩
            · rw [Array.toList_push]; exact hR.snoc ⟨_, rfl⟩
            · simp; (clear hh hr hla hA e e' hLs hga hDL hitl hg5 hg6 hdga hdon hit hitems hm hDga hdon' e1 e1' hF e2 e2'; omega)
            · intro z hz
              rcases List.mem_append.mp hz with hz | hz
              · exact hx100 z hz
              · rcases List.mem_singleton.mp hz with rfl
                simp; (clear hh hr hA e e' hLs hga hDL hitl hg5 hrl hg6 hdga hdon hit hitems hm hDga hdon' e1 e1' hF e2 e2'; omega)
          · have e2' : st = o := by simp at e2; (clear hh hr hla hA e e' hLs hga hDL hitl hg5 hrl hg6 hdga hdon hit hitems hm hDga hdon' e1 e1' hF; omega)
            rw [if_pos e2'] at hF
            refine r_nil ?_; refine SeqQ.go ?_; refine r_cons ?_; refine wpAny_Assign_Name ?_; refine wpAny_BinOp ?_
            refine r_name (by assumption) (by rfl) ?_; refine r_int (by assumption) ?_; intro _ _ _; refine r_add (by assumption) ?_; intro _ _ _
            refine r_store (by assumption) ?_; intro _ _; refine SeqQ.go ?_; refine r_cons ?_; refine wpAny_Assign_Name ?_; refine Constant_none ?_
            refine r_store (by assumption) ?_; intro _ _; refine SeqQ.go ?_; refine r_nil ?_; refine SeqQ.go ?_; refine r_nil ?_; refine SeqQ.go ?_
            refine r_nil ?_
            exact hTv _ _ ⟨q'.length, Nat.lt_succ_self _, q', don ++ [(p, x)], gs2, own', g2, .none, none, p + 1, r, ys, ep, _, back (St.re (by assumption) ⟨rfl, rfl, rfl, rfl, trivial⟩), G6, hg6, hrel.trans hrel2, rfl, hR, hdon', rfl, by simp; (clear hh hr hla hA e e' hLs hga hDL hitl hg5 hg6 hdga hdon hit hm hDga hdon' e1 e1' hF e2 e2'; omega), hx100, hF⟩
      · have e1' : ¬ x = [34] := by simpa using e1
        rw [show strF a ((p, x) :: q') st op r = strF a q' st op r by simp only [strF, if_neg e1']] at hF
        refine r_nil ?_; refine SeqQ.go ?_; refine r_nil ?_
        exact hTv _ _ ⟨q'.length, Nat.lt_succ_self _, q', don ++ [(p, x)], gs2, own', g2, ov, op, st, r, ys, ep, ts, back (St.re (by assumption) ⟨rfl, rfl, rfl, rfl, trivial⟩), G6, hg6, hrel.trans hrel2, hov, hR, hdon', rfl, by simp; (clear hh hr hla hA e e' hLs hga hDL hitl hg5 hg6 hdga hdon hF hit hm hDga hdon' e1 e1'; omega), hx100, hF⟩
    · intro hn0 g2 s6 hrel2 hg6 S6
      have hq : q = [] := List.length_eq_zero_iff.mp hn0
      subst hq
      exact hXv _ ⟨g2, st, r, ys, ep, ts, St.re S6 ⟨rfl, rfl, rfl, trivial⟩, GRel.bare (hrel.trans hrel2) hg6, hR, by rw [hdon] at hitl; simp at hitl; (clear hh hr hla hA e e' hLs hga hDL hg5 hg6 hdon hF hn0; omega), hx100, by rw [hF]; rfl⟩
  rintro s5 ⟨g5, st, r, ys, ep, ts, S5, hbare, hR, hrl, hx100, hF⟩
  refine SeqQ.go ?_; refine r_cons ?_; refine r_if ?_; refine wpAny_isTrue_Compare1 ?_; refine r_name (by assumption) (by rfl) ?_
  refine Call_ ?_; refine r_builtin (by assumption) (by assumption) (by rfl) (by first | reg3_boot | boot_fact) (by decide) ?_
  refine PyProof.Rows.callWith_builtin1 ?_; refine args_cons ?_; refine r_name (by assumption) (by rfl) ?_; refine args_nil ?_
  refine r_lenS (by assumption) (by assumption) ?_; intro _ _ _; refine PyProof.Rows.lt_int ?_; refine wpAny_truthy_bool ?_
  rw [T_len]
  have fin : ∀ (r' : List (List Nat)) (ys' : Array Value) (ep' : Nat) (l' : List (Str × Value)) (t0 : Tok) (s6 : Shared), r' = (if st < a.length then r ++ [a.drop st] else r) → Rel2 TV r' ys'.toList → r'.length ≤ 102 → (∀ x ∈ r', x.length ≤ 100) →
      St g5 s.os s.heap L l' [(D, listOf ys' ep')] s6 → ∀ A', wpAny (MM w) A' (call (.builtin "str.join") [.str (T []) t0, .ref D]) (fun v s' => Q v s') NoE s6 := by
    intro r' ys' ep' l' t0 s6 hr' hR' hl' hx' S6 A'
    refine r_join S6 (.head _) hR' (Nat.le_trans (flat_len 100 r' hx') (by (clear hh hr hla hA e e' hLs hga hDL hitl hrl hF hr'; omega))) ?_
    intro t7 s7 S7
    have := h t7 s7 ⟨S7.keep, S7.os, fun hb => by rw [S7.gens]; exact hbare hb⟩
    simp only [strip, if_pos e', hF] at this
    rw [← hr'] at this
    exact this
  refine Br.split (fun e1 => ?_) (fun e1 => ?_)
  · have e1' : st < a.length := by simp at e1; (clear hh hr hla hA e e' hLs hga hDL hitl hrl hF; omega)
    refine r_cons ?_; refine wpAny_Expr ?_; refine MethodCall_ ?_; refine r_name (by assumption) (by rfl) ?_
    refine r_getAppend (by assumption) (by first | assumption | (repeat (first | exact List.Mem.head _ | apply List.Mem.tail))) ?_
    refine PyProof.Rows.callWith_method1 ?_; refine args_cons ?_; refine Subscript_ ?_; refine r_name (by assumption) (by rfl) ?_
    refine r_slice ?_; refine r_part1 ?_; refine r_name (by assumption) (by rfl) ?_; refine r_part0 ?_; refine r_part0 ?_
    refine r_sliceS_sn (by assumption) (by assumption) ?_; intro _ _ _; refine args_nil ?_; change wpAny _ _ (call _ [_, _]) _ _ _
    rw [T_slice_lo]
    skip
    refine r_append (by assumption) (.head (fun z hz => by cases hz)) ?_ ?_
    · have := hR.length; rw [Array.length_toList] at this; (clear hh hr hla hA e e' hLs hga hDL hitl hF e1 e1'; omega)
    intro s9 S9
    refine SeqQ.go ?_; refine r_nil ?_; refine SeqQ.go ?_; refine r_cons ?_; refine wpAny_Return_some ?_; refine MethodCall_ ?_
    refine r_str (by assumption) ?_; intro _ _ _; refine GM.join ?_; refine PyProof.Rows.callWith_method1 ?_; refine args_cons ?_
    refine r_name (by assumption) (by rfl) ?_; refine args_nil ?_; change wpAny _ _ (call _ [_, _]) _ _ _
    rw [em_eq]
    refine wpAny_mono (fin (r ++ [a.drop st]) _ _ _ _ _ (by rw [if_pos e1']) ?_ (by simp; (clear hh hr hla hA e e' hLs hga hDL hitl hF e1 e1'; omega)) ?_ (by assumption) _) (fun v s' hq => hq) fun _ _ e => e
    · rw [Array.toList_push]; exact hR.snoc ⟨_, rfl⟩
    · intro z hz
      rcases List.mem_append.mp hz with hz | hz
      · exact hx100 z hz
      · rcases List.mem_singleton.mp hz with rfl
        simp; (clear hh hr hA e e' hLs hga hDL hitl hrl hF e1 e1'; omega)
  · have e1' : ¬ st < a.length := by simp at e1; (clear hh hr hla hA e e' hLs hga hDL hitl hrl hF; omega)
    refine r_nil ?_; refine SeqQ.go ?_; refine r_cons ?_; refine wpAny_Return_some ?_; refine MethodCall_ ?_
    refine r_str (by assumption) ?_; intro _ _ _; refine GM.join ?_; refine PyProof.Rows.callWith_method1 ?_; refine args_cons ?_
    refine r_name (by assumption) (by rfl) ?_; refine args_nil ?_; change wpAny _ _ (call _ [_, _]) _ _ _
    rw [em_eq]
    exact wpAny_mono (fin r _ _ _ _ _ (by rw [if_neg e1']) hR (by (clear hh hr hla hA e e' hLs hga hDL hitl hF e1 e1'; omega)) hx100 (by assumption) _) (fun v s' hq => hq) fun _ _ e => e
end
end Mine
end
section
open PySem PySem.W PyProof.Rows PySem.Calls
set_option Elab.async false
set_option maxRecDepth 100000
set_option maxHeartbeats 1000000
set_option linter.unusedVariables false
namespace Mine
/-- a dict of texts to numbers -/
noncomputable def pget : List (List Nat × Int) → List Nat → Option Int
  | [], _ => none
  | (k, v) :: r, x => if k = x then some v else pget r x
noncomputable def pput : List (List Nat × Int) → List Nat → Int → List (List Nat × Int)
  | [], x, n => [(x, n)]
  | (k, v) :: r, x, n => if k = x then (k, n) :: r else (k, v) :: pput r x n
inductive DRel : List (List Nat × Int) → List (Str × Value) → Prop
  | nil : DRel [] []
  | cons {k n t r kvs} : DRel r kvs → DRel ((k, n) :: r) ((T k, .int n t) :: kvs)
theorem DRel.get {d : List (List Nat × Int)} {kvs : List (Str × Value)} (h : DRel d kvs) (x : List Nat) : (match pget d x with | none => valueAt kvs (T x) = none | some n => ∃ t, valueAt kvs (T x) = some (.int n t)) := by
  induction h with
  | nil => rfl
  | cons h ih =>
    rename_i k n t r kvs
    unfold valueAt at ih ⊢
    by_cases hk : k = x
    · subst hk
      simp only [pget, if_true, List.find?_cons, decide_true]
      exact ⟨t, rfl⟩
    · have hk' : ¬ T k = T x := fun e => hk (T_inj e)
      simp only [pget, if_neg hk, List.find?_cons, hk', decide_false]
      exact ih
theorem DRel.keys {d : List (List Nat × Int)} {kvs : List (Str × Value)} (h : DRel d kvs) (x : List Nat) : kvs.any (fun kv => decide (kv.1 = T x)) = (pget d x).isSome := by
  induction h with
  | nil => rfl
  | cons h ih =>
    rename_i k n t r kvs
    by_cases hk : k = x
    · subst hk; simp [pget]
    · have hk' : ¬ T k = T x := fun e => hk (T_inj e)
      simp only [pget, if_neg hk, List.any_cons, hk', decide_false, Bool.false_or]
      exact ih
/-- the texts of the keys differ -/
noncomputable def KNodup (d : List (List Nat × Int)) : Prop := (d.map (·.1)).Nodup
theorem pput_keys (d : List (List Nat × Int)) (x : List Nat) (n : Int) : ∀ y, y ∈ (pput d x n).map (·.1) → y ∈ d.map (·.1) ∨ y = x := by
  induction d with
  | nil => intro y hy; simp [pput] at hy; exact .inr hy
  | cons p r ih =>
    obtain ⟨k, v⟩ := p
    intro y hy
    by_cases hk : k = x
    · simp only [pput, if_pos hk, List.map_cons, List.mem_cons] at hy
      simp only [List.map_cons, List.mem_cons]
      exact .inl hy
    · simp only [pput, if_neg hk, List.map_cons, List.mem_cons] at hy
      simp only [List.map_cons, List.mem_cons]
      rcases hy with rfl | hy
      · exact .inl (.inl rfl)
      · rcases ih y hy with h | h
        · exact .inl (.inr h)
        · exact .inr h
theorem KNodup.put {d : List (List Nat × Int)} (h : KNodup d) (x : List Nat) (n : Int) : KNodup (pput d x n) := by
  unfold KNodup at *
  induction d with
  | nil => simp [pput]
  | cons p r ih =>
    obtain ⟨k, v⟩ := p
    rw [List.map_cons, List.nodup_cons] at h
    by_cases hk : k = x
    · simp only [pput, if_pos hk, List.map_cons, List.nodup_cons]; exact h
    · simp only [pput, if_neg hk, List.map_cons, List.nodup_cons]
      refine ⟨fun hm => ?_, ih h.2⟩
      rcases pput_keys r x n k hm with h1 | h1
      · exact h.1 h1
      · exact hk h1
theorem DRel.put {d : List (List Nat × Int)} {kvs : List (Str × Value)} (h : DRel d kvs) (hn : KNodup d) (x : List Nat) (n : Int) (t : Tok) : DRel (pput d x n) (stored kvs (T x) (.int n t)) := by
  have hmap : ∀ {d kvs}, DRel d kvs → x ∉ d.map (·.1) → kvs.map (fun kv => if kv.1 = T x then (kv.1, Value.int n t) else kv) = kvs := by
    intro d kvs h
    induction h with
    | nil => intro _; rfl
    | cons h ih =>
      rename_i k m u r kvs
      intro hm
      rw [List.map_cons, List.mem_cons, not_or] at hm
      have hk' : ¬ T k = T x := fun e => hm.1 (T_inj e).symm
      rw [List.map_cons, ih hm.2, if_neg hk']
  unfold stored
  rw [h.keys x]
  induction h with
  | nil => exact .cons .nil
  | cons h ih =>
    rename_i k m u r kvs
    have hn' : KNodup r := (List.nodup_cons.mp hn).2
    by_cases hk : k = x
    · subst hk
      simp only [pget, if_true, Option.isSome_some, pput, List.map_cons]
      rw [hmap h (List.nodup_cons.mp hn).1]
      exact .cons h
    · have hk' : ¬ T k = T x := fun e => hk (T_inj e)
      simp only [pget, if_neg hk, pput]
      have ih := ih hn'
      cases hp : (pget r x).isSome with
      | true =>
        rw [hp] at ih
        simp only [if_true, List.map_cons, if_neg hk'] at ih ⊢
        exact .cons ih
      | false =>
        rw [hp] at ih
        simp only [Bool.false_eq_true, if_false, List.cons_append] at ih ⊢
        exact .cons ih
end Mine
end
section
open PySem PySem.W PyProof.Rows PySem.Calls
set_option Elab.async false
set_option maxRecDepth 100000
set_option maxHeartbeats 1000000
set_option linter.unusedVariables false
namespace Mine
section
variable {prog : Program} {w : World} {A : Around} {E : Value → Shared → Prop} {s : Shared} {g : Array GenState} {os : OsState} {h₀ : Heap} {L : Addr} {l : List (Str × Value)} {news : List (Addr × Obj)}
theorem r_dictEmpty {env : Env} {pos : Pos} {Q : Value → Shared → Prop} (S : St g os h₀ L l news s) (hbig : sysModules < h₀.objs.size)
    (h : ∀ D o s', (∀ p ∈ news, p.1 < D) → (D == sysModules) = false → o.IsDictOf (PySem.strKind prog w) [] → St g os h₀ L l ((D, o) :: news) s' → Q (.ref D) s') : wpAny (model prog w) A (eval (.Dict [] [] pos) env) Q E s := by
  have hn : (s.heap.objs.size == sysModules) = false := by
    obtain ⟨_, F, _⟩ := S.fr
    exact F.notModules hbig
  obtain ⟨o, ho, hd⟩ := Heap.dictOf_iff.mp (Heap.DictOf.new (knd := PySem.strKind prog w) s.heap)
  rw [Heap.get?_push_size _ rfl] at ho
  cases Option.some.inj ho
  exact wpAny_Dict_empty (h _ _ _ (fun p hp => S.lt hp) hn hd (S.push _ _))
theorem r_dictGetM {d : Addr} {o : Obj} {kvs : List (Str × Value)} {pl : Sem Bool} {Q : Value × List Value → Shared → Prop} (S : St g os h₀ L l news s) (hm : (d, o) ∈ news) (hd : o.IsDictOf (PySem.strKind prog w) kvs)
    (h : Q (.builtin "dict.get", [.ref d]) s) : wpAny (model prog w) A (getMethod (.ref d) "get" pl) Q E s := kdg_method S.nw hm hd h
theorem r_dictGet {d : Addr} {o : Obj} {kvs : List (Str × Value)} {x : Str} {t : Tok} {dflt : Value} {Q : Value → Shared → Prop} (S : St g os h₀ L l news s) (hm : (d, o) ∈ news) (hd : o.IsDictOf (PySem.strKind prog w) kvs)
    (lo : (d == sysModules) = false) (h : ∀ s', St g os h₀ L l news s' → Q ((valueAt kvs x).getD dflt) s') : wpAny (model prog w) A (call (.builtin "dict.get") [.ref d, .str x t, dflt]) Q E s :=
  kdg_get2 (knd := PySem.strKind prog w) S.nw hm hd lo (strKind_is _ _ _ _) _ rfl (h _ (S.toks _))
theorem r_dictSet {d : Addr} {o : Obj} {kvs : List (Str × Value)} {x : Str} {t : Tok} {v : Value} {G : Obj → List (Addr × Obj)} {Q : Unit → Shared → Prop} (S : St g os h₀ L l news s) (hm : (d, o) ∈ news) (U : ∀ o', Upd d o o' news (G o'))
    (hd : o.IsDictOf (PySem.strKind prog w) kvs) (hsz : kvs.length ≤ 1000000) (h : ∀ o' s', o'.IsDictOf (PySem.strKind prog w) (stored kvs x v) → St g os h₀ L l (G o') s' → Q () s') : wpAny (model prog w) A (setItem (.ref d) (.str x t) v) Q E s := by
  refine wpAny_setItem_pairs (knd := PySem.strKind prog w) (hsz := by rw [sizeLine_eq]; omega) (strKind_is _ _ _ _) (kda_dict S.nw hm hd) fun h' hmm hs => ?_
  obtain ⟨o', ho', hd'⟩ := Heap.dictOf_iff.mp hmm
  exact h o' _ hd' (S.change (U o') hs ho' _)
theorem r_lenL {D : Addr} {its : Array Value} {n : Nat} {Q : Value → Shared → Prop} (S : St g os h₀ L l news s) (hm : (D, listOf its n) ∈ news) (hsz : its.size ≤ 1000000) (h : ∀ t s', St g os h₀ L l news s' → Q (.int its.size t) s') :
    wpAny (model prog w) A (call (.builtin "len") [.ref D]) Q E s := by
  refine PySem.Calls.call_len_list (PySem.IsL.isList (n := n) (S.nw _ hm).1) (by omega) ?_
  exact h _ _ (S.toks _)
theorem r_pow2 {n : Nat} {t u : Tok} {Q : Value → Shared → Prop} (S : St g os h₀ L l news s) (hn : n ≤ 8) (h : ∀ t s', St g os h₀ L l news s' → Q (.int ((2 ^ n : Nat) : Int) t) s') :
    wpAny (model prog w) A (binaryOp .Pow (.int 2 t) (.int (n : Int) u)) Q E s := by
  have hnn : (n : Int) ≥ 0 := Int.natCast_nonneg _
  by_cases h0 : n = 0
  · subst h0
    exact PySem.AutoIntOps.pow_0 hnn rfl (h _ _ (S.toks _))
  · refine PySem.AutoIntOps.pow_4 hnn (by simpa using h0) (by decide) (by decide) ?_ ?_
    · have : ∀ n : Nat, n ≤ 8 → ¬Builtin.Int.intTooBig (((Builtin.Int.intBits 2 : Nat) : Int) * (n : Int)) = true := by decide +kernel
      exact this n hn
    · have e : (2 : Int) ^ ((n : Int)).toNat = ((2 ^ n : Nat) : Int) := by simp
      rw [e]
      exact h _ _ (S.toks _)
end
end Mine
end
section
open PySem PySem.W PyProof.Rows PySem.Calls
set_option Elab.async false
set_option maxRecDepth 100000
set_option maxHeartbeats 1000000
set_option linter.unusedVariables false
namespace Mine
theorem dlt {a k b c : Nat} (h : a + b < c) (hk : k ≤ b := by decide) : a + k < c := Nat.lt_of_le_of_lt (Nat.add_le_add_left hk a) h
theorem dlt0 {a b c : Nat} (h : a + b < c) : a < c := Nat.lt_of_le_of_lt (Nat.le_add_right a b) h
theorem turn_lt {i n N : Nat} (h : i + n = N) (hlt : i < N) : n - 1 < n ∧ i + 1 + (n - 1) = N := by omega
theorem sub_nil {N : List (Addr × Obj)} : ∀ p ∈ ([] : List (Addr × Obj)), p ∈ N := fun _ h => nomatch h
theorem sub_cons {x : Addr × Obj} {xs N : List (Addr × Obj)} (h : x ∈ N) (t : ∀ p ∈ xs, p ∈ N) : ∀ p ∈ x :: xs, p ∈ N := List.forall_mem_cons.mpr ⟨h, t⟩
theorem ne_nil {q : Addr} : ∀ p ∈ ([] : List (Addr × Obj)), p.1 ≠ q := fun _ h => nomatch h
theorem ne_cons {x : Addr × Obj} {xs : List (Addr × Obj)} {q : Addr} (h : x.1 ≠ q) (t : ∀ p ∈ xs, p.1 ≠ q) : ∀ p ∈ x :: xs, p.1 ≠ q := List.forall_mem_cons.mpr ⟨h, t⟩
/-- an int's value -/
noncomputable abbrev IV (x : Int) (v : Value) : Prop := ∃ t, v = .int x t
theorem Rel2.ints {xs : List Int} {vs : List Value} (h : Rel2 IV xs vs) : IntsAre vs xs := by
  induction h with
  | nil => exact .nil
  | cons h _ ih => obtain ⟨t, rfl⟩ := h; exact .cons _ t ih
theorem Rel2.strs {xs : List (List Nat)} {vs : List Value} (h : Rel2 TV xs vs) : StrsAre vs (xs.map T) := by
  induction h with
  | nil => exact .nil
  | cons h _ ih => obtain ⟨t, rfl⟩ := h; exact .cons _ t ih
theorem Rel2.map2 {α β : Type} {R : α → Value → Prop} {R' : β → Value → Prop} {f : α → β} (h : ∀ a v, R a v → R' (f a) v) : ∀ {as : List α} {vs : List Value}, Rel2 R as vs → Rel2 R' (as.map f) vs
  | _, _, .nil => .nil
  | _, _, .cons x r => .cons (h _ _ x) (r.map2 h)
section
variable {prog : Program} {w : World} {A : Around} {E : Value → Shared → Prop} {s s' : Shared} {g : Array GenState} {os : OsState} {h₀ : Heap} {L : Addr} {l : List (Str × Value)} {news : List (Addr × Obj)}
theorem St.afterG (S : St g os h₀ L l news s) (G : GrowG s s') : St s'.gens os h₀ L l news s' :=
  ⟨let ⟨m, F, H⟩ := S.fr; ⟨m, ⟨F.ns.keeps G.keep, fun b o e => G.keep b o (F.keep b o e), F.above⟩, H⟩, fun p hp => ⟨G.keep _ _ (S.nw p hp).1, (S.nw p hp).2⟩, rfl, G.os.trans S.os⟩
theorem GrowG.refl (s : Shared) : GrowG s s := ⟨fun _ _ h => h, rfl, fun h => h⟩
theorem GrowG.trans {a b c : Shared} (x : GrowG a b) (y : GrowG b c) : GrowG a c := ⟨fun p o h => y.keep p o (x.keep p o h), y.os.trans x.os, fun h => y.bare (x.bare h)⟩
theorem r_inInts {D : Addr} {vs : List Value} {n : Nat} {ns : List Int} {k : Int} {t : Tok} {Q : Value → Shared → Prop} (S : St g os h₀ L l news s) (hm : (D, listOf vs.toArray n) ∈ news) (hi : IntsAre vs ns)
    (h : Q (.bool (ns.any (· == k))) s) : wpAny (model prog w) A (compareOp .In (.int k t) (.ref D)) Q E s :=
  in_list_ints (PySem.IsL.isList (n := n) (S.nw _ hm).1) hi h
theorem r_notinStrs {D : Addr} {ys : Array Value} {n : Nat} {xs : List (List Nat)} {x : List Nat} {t : Tok} {Q : Value → Shared → Prop} (S : St g os h₀ L l news s) (hm : (D, listOf ys n) ∈ news) (hi : Rel2 TV xs ys.toList)
    (h : Q (.bool (!xs.contains x)) s) : wpAny (model prog w) A (compareOp .NotIn (.str (T x) t) (.ref D)) Q E s := by
  refine notin_list_strs (vs := ys.toList) (by simpa using PySem.IsL.isList (n := n) (S.nw _ hm).1) hi.strs ?_
  have e : (xs.map T).any (· == T x) = xs.contains x := by
    rw [List.any_map, Bool.eq_iff_iff, List.any_eq_true, List.contains_iff_mem]
    constructor
    · rintro ⟨y, hy, he⟩
      have : T y = T x := by simpa using he
      rw [← T_inj this]; exact hy
    · intro hx; exact ⟨x, hx, by simp⟩
  rw [e]; exact h
end
end Mine
end
section
open PySem PySem.W PyProof.Rows PySem.Calls
set_option Elab.async false
set_option maxRecDepth 100000
set_option maxHeartbeats 1000000
set_option linter.unusedVariables false
namespace Mine
noncomputable def wBare (row : List Nat) : List (List Nat) := row.map fun c => spl [34, 92] [c]
noncomputable def wHead (row : List Nat) (k : Nat) : Bool := !((row.take k).drop ((row.take k).length - 1) == [row.getD k 0])
noncomputable def wHeads (row : List Nat) : List Nat := (List.range row.length).filter (wHead row)
noncomputable def wHid (h : List Nat) (c : Nat) : List Nat := ((List.range h.length).filter fun k => c / 2 ^ k % 2 == 1).map (h.getD · 0)
noncomputable def wText (row hid : List Nat) : List Nat := ((List.range row.length).map fun k => if hid.contains k then 34 :: (spl [34, 92] [row.getD k 0] ++ [34]) else spl [34, 92] [row.getD k 0]).flatten
noncomputable def wTxt (row : List Nat) (c : Nat) : List Nat := wText row (wHid (wHeads row) c)
noncomputable def wStep (row : List Nat) (d : List (List Nat × Int)) (c : Nat) : List (List Nat × Int) := pput d (strip (wTxt row c)) ((pget d (strip (wTxt row c))).getD 0 + 1)
noncomputable def wDict (row : List Nat) (n : Nat) : List (List Nat × Int) := (List.range n).foldl (wStep row) []
noncomputable def wTail (row : List Nat) : List Nat := 34 :: (wBare row).flatten
noncomputable def ways (row : List Nat) : List (List Nat × Int) :=
  let n := 2 ^ (wHeads row).length
  if strip (wTxt row (n - 1) ++ wTail row) == strip (wTxt row (n - 1)) ++ wTail row then wDict row n else []
theorem sl_eq : (Str.ofString "\"\\" : Str) = T [34, 92] := by decide +kernel
theorem ne_add {L : Addr} {i j : Nat} (h : i ≠ j) : (L + i : Addr) ≠ L + j := fun e => h (Nat.add_left_cancel e)
theorem ne_top {L D : Addr} {i j : Nat} (h : L + i < D) (hj : j ≤ i) : D ≠ L + j := Nat.ne_of_gt (Nat.lt_of_le_of_lt (Nat.add_le_add_left hj L) h)
theorem strF_len (a : List Nat) : ∀ (q : List (Nat × List Nat)) (st : Nat) (op : Option Nat) (r : List (List Nat)), (∀ x ∈ r, x.length ≤ a.length) →
    (strF a q st op r).2.length ≤ r.length + q.length ∧ ∀ x ∈ (strF a q st op r).2, x.length ≤ a.length
  | [], st, op, r, h => by simpa [strF] using h
  | (p, x) :: q, st, op, r, h => by
    unfold strF
    split
    · split
      · have := strF_len a q st (some p) r h
        simp only [List.length_cons]; exact ⟨by omega, this.2⟩
      · rename_i o
        have := strF_len a q (p + 1) none (if st = o then r else r ++ [(a.take o).drop st]) (fun y hy => by
          split at hy
          · exact h y hy
          · rcases List.mem_append.mp hy with hy | hy
            · exact h y hy
            · rcases List.mem_singleton.mp hy with rfl
              simp; omega)
        refine ⟨Nat.le_trans this.1 ?_, this.2⟩
        split <;> simp only [List.length_cons, List.length_append, List.length_nil] <;> (clear this; omega)
    · have := strF_len a q st op r h
      simp only [List.length_cons]; exact ⟨by omega, this.2⟩
theorem strip_len (a : List Nat) : (strip a).length ≤ a.length * (a.length + 2) := by
  unfold strip
  split
  · have h1 := strF_len a (esc 0 false a) 0 none [] (fun _ h => nomatch h)
    have h2 := esc_len 0 false a
    simp only [List.length_nil] at h1
    dsimp only
    split
    · refine Nat.le_trans (flat_len a.length _ (fun x hx => ?_)) (Nat.mul_le_mul_left _ ?_)
      · rcases List.mem_append.mp hx with hx | hx
        · exact h1.2 x hx
        · rcases List.mem_singleton.mp hx with rfl
          simp
      · simp only [List.length_append, List.length_cons, List.length_nil]; omega
    · exact Nat.le_trans (flat_len a.length _ h1.2) (Nat.mul_le_mul_left _ (by omega))
  · exact Nat.le_mul_of_pos_right _ (by omega)
theorem pput_len (d : List (List Nat × Int)) (x : List Nat) (n : Int) : (pput d x n).length ≤ d.length + 1 := by
  induction d with
  | nil => simp [pput]
  | cons p r ih =>
    obtain ⟨k, v⟩ := p
    unfold pput
    split
    · simp
    · simp only [List.length_cons]; omega
theorem DRel.len {d : List (List Nat × Int)} {kvs : List (Str × Value)} (h : DRel d kvs) : d.length = kvs.length := by
  induction h with
  | nil => rfl
  | cons _ ih => simp only [List.length_cons, ih]
theorem spl1_len (c : Nat) : (spl [34, 92] [c]).length ≤ 2 := by
  simp only [spl, List.map_cons, List.map_nil, List.flatten_cons, List.flatten_nil, List.append_nil]
  split <;> simp
theorem spl_mem (sp a : List Nat) (c : Nat) (h : c ∈ spl sp a) : c = 92 ∨ c ∈ a := by
  unfold spl at h
  rw [List.mem_flatten] at h
  obtain ⟨l, hl, hc⟩ := h
  obtain ⟨x, hx, rfl⟩ := List.mem_map.mp hl
  split at hc
  · simp only [List.mem_cons, List.not_mem_nil, or_false] at hc
    rcases hc with rfl | rfl
    · exact .inl rfl
    · exact .inr hx
  · simp only [List.mem_singleton] at hc
    exact .inr (hc ▸ hx)
theorem getD_lt (a : List Nat) (k : Nat) (haa : ∀ x ∈ a, x < 128) : a.getD k 0 < 128 := by
  rw [List.getD_eq_getElem?_getD]
  cases h : a[k]? with
  | none => decide
  | some x => exact haa _ (List.mem_of_getElem? h)
theorem wTxt_lt (a : List Nat) (i : Nat) (haa : ∀ x ∈ a, x < 128) : ∀ c ∈ wTxt a i, c < 128 := by
  intro c hc
  unfold wTxt wText at hc
  rw [List.mem_flatten] at hc
  obtain ⟨l, hl, hc⟩ := hc
  obtain ⟨k, hk, rfl⟩ := List.mem_map.mp hl
  have key : c ∈ spl [34, 92] [a.getD k 0] → c < 128 := fun h => by
    rcases spl_mem _ _ _ h with rfl | h
    · decide
    · rcases List.mem_singleton.mp h with rfl; exact getD_lt a k haa
  split at hc
  · rcases List.mem_cons.mp hc with rfl | hc
    · decide
    · rcases List.mem_append.mp hc with hc | hc
      · exact key hc
      · rcases List.mem_singleton.mp hc with rfl; decide
  · exact key hc
theorem wTxt_len (a : List Nat) (i : Nat) : (wTxt a i).length ≤ 4 * a.length := by
  have := flat_len 4 ((List.range a.length).map fun k => if (wHid (wHeads a) i).contains k then 34 :: (spl [34, 92] [a.getD k 0] ++ [34]) else spl [34, 92] [a.getD k 0]) (fun x hx => by
    obtain ⟨k, hk, rfl⟩ := List.mem_map.mp hx
    have := spl1_len (a.getD k 0)
    split
    · simp only [List.length_cons, List.length_append, List.length_nil]; omega
    · omega)
  rw [List.length_map ..] at this
  rw [List.length_range] at this
  exact this
section
variable {w : World} {A : Around} {s : Shared}
set_option maxHeartbeats 8000000 in
theorem ways_spec {a : List Nat} {t : Tok} {Q : Value → Shared → Prop} (B : Base w s.heap) (hh : A.handled = none) (hr : A.depth + 20 < recursionLimit) (haa : ∀ x ∈ a, x < 128) (hla : a.length ≤ 8)
    (h : ∀ D o kvs s', GrowG s s' → s.heap.objs.size ≤ D → s.heap.get? D = none → s'.heap.get? D = some o → o.IsDictOf (PySem.strKind PySem.Challenge.pw_rw0052_01 w) kvs → (D == sysModules) = false → DRel (ways a) kvs → Q (.ref D) s') : wpAny (MM w) A (call (.ref 101) [.str (T a) t]) Q NoE s := by
  have hA : (T a).length ≤ 1000000 := by rw [T_len]; (clear hh hr; omega)
  refine r_callC (hb := s.heap) (news := []) (l := []) (binds := [("row", .str (T a) t)]) rfl rfl rfl ?_ B (fun _ _ e => e) (Nat.le_refl _) (fun _ h => nomatch h) (by (clear hh hla hA; omega)) ?_ ?_
  · intro N x hx
    rcases List.mem_singleton.mp hx with rfl
    exact .inr ⟨rfl, rfl⟩
  · exact fun L => trivial
  intro L s₁ _ X S
  have ab : s.heap.objs.size ≤ L := S.above
  obtain ⟨c1, hc1, S⟩ := S.addCell (X.cell "row" (L + 1) rfl : s₁.heap.IsCell (L + 1) (some (.str (T a) t))) (Nat.succ_ne_self L) (Nat.le_trans ab (Nat.le_add_right L 1))
  obtain ⟨c2, hc2, S⟩ := S.addCell (X.cell "bare" (L + 2) rfl : s₁.heap.IsCell (L + 2) none) (Nat.ne_of_gt (Nat.lt_add_of_pos_right (by decide : 0 < 2))) (Nat.le_trans ab (Nat.le_add_right L 2))
  obtain ⟨c3, hc3, S⟩ := S.addCell (X.cell "heads" (L + 3) rfl : s₁.heap.IsCell (L + 3) none) (Nat.ne_of_gt (Nat.lt_add_of_pos_right (by decide : 0 < 3))) (Nat.le_trans ab (Nat.le_add_right L 3))
  obtain ⟨c4, hc4, S⟩ := S.addCell (X.cell "choice" (L + 4) rfl : s₁.heap.IsCell (L + 4) none) (Nat.ne_of_gt (Nat.lt_add_of_pos_right (by decide : 0 < 4))) (Nat.le_trans ab (Nat.le_add_right L 4))
  obtain ⟨c5, hc5, S⟩ := S.addCell (X.cell "hidden" (L + 5) rfl : s₁.heap.IsCell (L + 5) none) (Nat.ne_of_gt (Nat.lt_add_of_pos_right (by decide : 0 < 5))) (Nat.le_trans ab (Nat.le_add_right L 5))
  clear X
  refine r_cons ?_
  refine wpAny_Assign_Name ?_
  refine r_comp (cl := []) rfl (by decide) rfl (by decide) (fun _ => rfl) ?_
  refine r_cellE (by assumption) (by rfl) (by first | assumption | (repeat (first | exact List.Mem.head _ | apply List.Mem.tail))) (by assumption) ?_
  refine r_iterStr (by assumption) haa ?_
  intro I oI s2 hI hIlt S2
  apply comp_iter (Iter.str (by exact hh) I a t) (R := fun c v => TV (spl [34, 92] [c]) v) (p := fun _ => true) (hL₀ := rfl) (S := S2) (hI := hI) (hd := hIlt) (hlen := by (clear hh hr hA ab hc1 hc2 hc3 hc4 hc5; omega)) (hk := rfl) (hx := rfl)
  · intro i c v C N l' s₃ _ _ _ S3 Q hQ
    exact ifs_nil (hQ _ S3)
  · rintro i c v C N l' s₃ hc ⟨tc, rfl⟩ _ hN S3 Q hQ
    refine Call_ ?_; refine r_globalE (by assumption) (by assumption) (gvlawspelled _) ?_
    refine r_callK (by assumption) (by assumption) (by rfl) ?_; refine args_cons ?_; refine r_nameE (by assumption) (by rfl) ?_
    refine args_cons ?_; refine r_str (by assumption) ?_; intro _ _ _; refine args_nil ?_; refine k_and (by assumption) (by assumption) ?_
    rw [sl_eq]
    refine spelled_spec ?_ hh ?_ ?_ (by show 1 ≤ 40; decide) ?_
    · exact St.base (by assumption) B
    · show A.depth + 11 < _; exact dlt hr
    · intro z hz
      rcases List.mem_singleton.mp hz with rfl
      exact haa _ (List.mem_of_getElem? hc)
    intro t9 s9 G9
    exact hQ _ _ ⟨t9, rfl⟩ (St.after (by assumption) G9)
  intro C D ys ep hRb hDb _ s3 S3
  rw [List.filter_eq_self.mpr (fun _ _ => rfl)] at hRb
  have hD5 : L + 5 < D := hDb _ (.head _)
  have S3 := S3.drop (news' := [(L + 2, c2), (D, listOf ys ep), (L + 5, c5), (L + 4, c4), (L + 3, c3), (L + 1, c1)]) (by repeat (first | exact sub_nil | refine sub_cons (by repeat (first | exact List.Mem.head _ | apply List.Mem.tail)) ?_ | (intro p hp; repeat (first | exact hp | apply List.Mem.tail))))
  refine r_storeCellE S3 rfl hc2 (.head (fun p hp => ?_)) ?_
  · simp only [List.mem_cons, List.not_mem_nil, or_false] at hp
    rcases hp with rfl | rfl | rfl | rfl | rfl
    · exact ne_top (L := L) (i := 5) (j := 2) hD5 (by decide)
    · exact ne_add (L := L) (i := 5) (j := 2) (by decide)
    · exact ne_add (L := L) (i := 4) (j := 2) (by decide)
    · exact ne_add (L := L) (i := 3) (j := 2) (by decide)
    · exact ne_add (L := L) (i := 1) (j := 2) (by decide)
  intro s4 S4
  generalize hb2 : ({ c2 with data := .cell (some (.ref D)) } : Obj) = o2 at S4
  have ho2 : o2.data = .cell (some (.ref D)) := by rw [← hb2]
  clear hb2 hc2 S3
  refine SeqQ.go ?_; refine r_cons ?_; refine wpAny_Assign_Name ?_
  refine r_comp (cl := [("row", L + 1)]) rfl (by decide) rfl (by decide) (fun _ => rfl) ?_
  refine Call_ ?_; refine r_builtinE (by assumption) (by assumption) (by rfl) (by first | reg3_boot | boot_fact) (by decide) ?_
  refine PyProof.Rows.callWith_type1 ?_; refine args_cons ?_; refine Call_ ?_
  refine r_builtinE (by assumption) (by assumption) (by rfl) (by first | reg3_boot | boot_fact) (by decide) ?_
  refine PyProof.Rows.callWith_builtin1 ?_; refine args_cons ?_
  refine r_cellE (by assumption) (by rfl) (by first | assumption | (repeat (first | exact List.Mem.head _ | apply List.Mem.tail))) (by assumption) ?_
  refine args_nil ?_; refine r_lenS (by assumption) (by assumption) ?_; intro _ _ _; refine args_nil ?_
  refine r_range1 (by assumption) ?_; intro _ _ _ _ _ _ _
  rw [T_len] at *
  have hA : (T a).length ≤ 1000000 := by rw [T_len]; (clear hh hr hla ab hc1 hc3 hc4 hc5 hD5 ho2; omega)
  refine r_iterRange (by assumption) (.head _) (small_one (by (clear hh hr hla ab hc1 hc3 hc4 hc5 hD5 ho2 hA; omega)) (by (clear hh hr hla ab hc1 hc3 hc4 hc5 hD5 ho2 hA; omega)) (by (clear hh hr ab hc1 hc3 hc4 hc5 hD5 ho2 hA; omega)) (by (clear hh hr ab hc1 hc3 hc4 hc5 hD5 ho2 hA; omega))) ?_
  intro I2 s5 hI2 S5
  have eR : Builtin.Range.rangeSize 0 (a.length : Int) 1 = a.length := by rw [rangeSize_nat]; simp
  rw [eR] at S5
  apply comp_iter (Iter.range (by exact hh) I2 a.length) (R := fun k v => ∃ t, v = .int ((k : Nat) : Int) t) (p := wHead a) (hL₀ := rfl) (S := S5) (hI := by show rangeIt _ _ _ = rangeIt _ _ _; simp) (hd := hI2) (hlen := by rw [List.length_range]; (clear hh hr hla ab hc1 hc3 hc4 hc5 hD5 ho2 hA eR; omega)) (hk := rfl) (hx := rfl)
  · rintro i k v C N l' s₃ hk ⟨tk, rfl⟩ hN S3 Q hQ
    have hm : (L + 1, c1) ∈ N := hN _ (.tail _ (.tail _ (.tail _ (.tail _ (.tail _ (.tail _ (.head _)))))))
    refine ifs_one ?_
    refine wpAny_isTrue_Compare1 ?_; refine Subscript_ ?_; refine Subscript_ ?_
    refine r_cellE (by assumption) (by rfl) (by first | assumption | (repeat (first | exact List.Mem.head _ | apply List.Mem.tail))) (by assumption) ?_
    refine r_slice ?_; refine r_part0 ?_; refine r_part1 ?_; refine r_nameE (by assumption) (by rfl) ?_; refine r_part0 ?_
    refine r_sliceS_ns (by assumption) (by assumption) ?_; intro _ _ _; refine r_slice ?_; refine r_part1 ?_; refine UnaryOp_ ?_
    refine r_int (by assumption) ?_; intro _ _ _; refine r_neg (by assumption) ?_; intro _ _ _; refine r_part0 ?_; refine r_part0 ?_
    rw [T_slice_hi]
    refine r_sliceS_sn (by assumption) (by rw [T_len, List.length_take]; (clear hh hr ab hc1 hc3 hc4 hc5 hD5 ho2 hA hk; omega)) ?_
    intro t4 s4 S4
    rw [T_slice_loneg1]
    refine Subscript_ ?_
    refine r_cellE (by assumption) (by rfl) (by first | assumption | (repeat (first | exact List.Mem.head _ | apply List.Mem.tail))) (by assumption) ?_
    refine r_nameE (by assumption) (by rfl) ?_
    have hka : k < a.length := by
      have := List.mem_of_getElem? hk
      simpa using this
    refine r_itemS (by assumption) hA (by (clear hh hr hla ab hc1 hc3 hc4 hc5 hD5 ho2 eR hk hka; omega)) (by rw [T_len]; (clear hh hr hla ab hc1 hc3 hc4 hc5 hD5 ho2 hA hk; omega)) ?_
    intro t5 s5 S5
    rw [T_item a k hka]
    refine PyProof.Rows.ne_str ?_
    refine wpAny_truthy_bool ?_
    have e0 : (T ((a.take k).drop ((a.take k).length - 1)) != T [a[k]]) = wHead a k := by
      show (!(T _ == T _)) = (!(_ == _))
      rw [T_beq, List.getD_eq_getElem?_getD, List.getElem?_eq_getElem hka]; rfl
    rw [e0]
    exact hQ _ S5
  · rintro i k v C N l' s₃ hk ⟨tk, rfl⟩ _ hN S3 Q hQ
    refine r_nameE (by assumption) (by rfl) ?_
    exact hQ _ _ ⟨tk, rfl⟩ S3
  intro C2 D2 ys2 ep2 hR2 hDb2 hLD2 s6 S6
  have hD52 : L + 5 < D2 := hDb2 _ (.tail _ (.tail _ (.tail _ (.head _))))
  have hDD2 : D < D2 := hDb2 _ (.tail _ (.tail _ (.head _)))
  have hk2 : (Str.ofString "heads") = "heads" := rfl
  have S6 := S6.drop (news' := [(L + 3, c3), (D2, listOf ys2 ep2), (L + 2, o2), (D, listOf ys ep), (L + 5, c5), (L + 4, c4), (L + 1, c1)]) (by repeat (first | exact sub_nil | refine sub_cons (by repeat (first | exact List.Mem.head _ | apply List.Mem.tail)) ?_ | (intro p hp; repeat (first | exact hp | apply List.Mem.tail))))
  refine r_storeCellE S6 rfl hc3 (.head (fun p hp => ?_)) ?_
  · simp only [List.mem_cons, List.not_mem_nil, or_false] at hp
    rcases hp with rfl | rfl | rfl | rfl | rfl | rfl
    · exact ne_top (L := L) (i := 5) (j := 3) hD52 (by decide)
    · exact ne_add (L := L) (i := 2) (j := 3) (by decide)
    · exact ne_top (L := L) (i := 5) (j := 3) hD5 (by decide)
    · exact ne_add (L := L) (i := 5) (j := 3) (by decide)
    · exact ne_add (L := L) (i := 4) (j := 3) (by decide)
    · exact ne_add (L := L) (i := 1) (j := 3) (by decide)
  intro s7 S7
  generalize hb3 : ({ c3 with data := .cell (some (.ref D2)) } : Obj) = o3 at S7
  have ho3 : o3.data = .cell (some (.ref D2)) := by rw [← hb3]
  clear hb3 hc3 S6
  refine SeqQ.go ?_; refine r_cons ?_; refine wpAny_Assign_Name ?_
  refine r_dictEmpty S7 (modules_low B.nolimit) ?_
  intro W oW s8 hW lW dW S8
  have hm := hR2.length
  have hml : (wHeads a).length ≤ 8 := Nat.le_trans (List.length_filter_le _ _) (by rw [List.length_range]; exact hla)
  refine r_storeE (by assumption) ?_; intro _ _; refine SeqQ.go ?_; refine r_cons ?_
  refine r_for ?_
  refine Call_ ?_; refine r_builtinE (by assumption) (by assumption) (by rfl) (by first | reg3_boot | boot_fact) (by decide) ?_
  refine PyProof.Rows.callWith_type1 ?_; refine args_cons ?_; refine wpAny_BinOp ?_; refine r_int (by assumption) ?_; intro _ _ _
  refine Call_ ?_; refine r_builtinE (by assumption) (by assumption) (by rfl) (by first | reg3_boot | boot_fact) (by decide) ?_
  refine PyProof.Rows.callWith_builtin1 ?_; refine args_cons ?_
  refine r_cellE (by assumption) (by rfl) (by first | assumption | (repeat (first | exact List.Mem.head _ | apply List.Mem.tail))) (by assumption) ?_
  refine args_nil ?_
  refine r_lenL (by assumption) (.tail _ (.tail _ (.head _))) (by rw [← Array.length_toList, hm]; exact Nat.le_trans hml (by decide)) ?_
  intro t9 s9 S9
  have hm' : ys2.size = (wHeads a).length := by rw [← Array.length_toList, hm]; rfl
  rw [hm']
  skip
  refine r_pow2 (by assumption) hml ?_
  intro t10 s10 S10
  refine args_nil ?_; refine r_range1 (by assumption) ?_; intro _ _ _ _ _ _ _
  have hNle : 2 ^ (wHeads a).length ≤ 256 := Nat.le_trans (Nat.pow_le_pow_right (by decide) hml) (by decide)
  have hNpos : 0 < 2 ^ (wHeads a).length := Nat.pow_pos (by decide)
  generalize hN : 2 ^ (wHeads a).length = N at *
  refine r_iterRange (by assumption) (.head _) (small_one (by (clear hh hr hla ab hc1 hc4 hc5 hD5 ho2 hA eR hLD2 hD52 hDD2 hk2 ho3 lW hm hml hm' hN hNle hNpos; omega)) (by (clear hh hr hla ab hc1 hc4 hc5 hD5 ho2 hA eR hLD2 hD52 hDD2 hk2 ho3 lW hm hml hm' hN hNle hNpos; omega)) (by (clear hh hr hla ab hc1 hc4 hc5 hD5 ho2 hA eR hLD2 hD52 hDD2 hk2 ho3 lW hm hml hm' hN; omega)) (by (clear hh hr hla ab hc1 hc4 hc5 hD5 ho2 hA eR hLD2 hD52 hDD2 hk2 ho3 lW hm hml hm' hN; omega))) ?_
  intro I s11 hI S11
  have eR : Builtin.Range.rangeSize 0 (N : Int) 1 = N := by rw [rangeSize_nat]; simp
  rw [eR] at S11
  have hI1 : L + 1 < I := hI (L + 1, c1) (by (repeat (first | exact List.Mem.head _ | apply List.Mem.tail)))
  have hI4 : L + 4 < I := hI (L + 4, c4) (by (repeat (first | exact List.Mem.head _ | apply List.Mem.tail)))
  have hI5 : L + 5 < I := hI (L + 5, c5) (by (repeat (first | exact List.Mem.head _ | apply List.Mem.tail)))
  have hW5 : L + 5 < W := hW (L + 5, c5) (by (repeat (first | exact List.Mem.head _ | apply List.Mem.tail)))
  refine ForQ.of (fun n s' => ∃ (i : Nat) (g' : Array GenState) (l' : List (Str × Value)) (oW' o4 o5 : Obj) (kvs : List (Str × Value)) (v4 v5 : Option Value), i + n = N ∧
      St g' s.os s.heap L l' [(I, rangeIt (i : Int) ((N : Int) - i) 1), (W, oW'), (L + 4, o4), (L + 5, o5), (L + 3, o3), (D2, listOf ys2 ep2), (L + 2, o2), (D, listOf ys ep), (L + 1, c1)] s' ∧
      (AllBare s.gens → AllBare g') ∧ oW'.IsDictOf (PySem.strKind PySem.Challenge.pw_rw0052_01 w) kvs ∧ DRel (wDict a i) kvs ∧ KNodup (wDict a i) ∧ (wDict a i).length ≤ i ∧ o4.data = .cell v4 ∧ o5.data = .cell v5 ∧
      l'.lookup ("ways" : Str) = some (.ref W) ∧ (∀ k, i = k + 1 → ∃ t1 t2, l'.lookup ("seen" : Str) = some (.str (T (strip (wTxt a k))) t1) ∧ l'.lookup ("text" : Str) = some (.str (T (wTxt a k)) t2)))
    (fun s' => ∃ (k : Nat) (g' : Array GenState) (oW' o4 o5 : Obj) (kvs : List (Str × Value)) (t1 t2 : Tok), k + 1 = N ∧
      St g' s.os s.heap L [("ways", .ref W), ("seen", .str (T (strip (wTxt a k))) t1), ("text", .str (T (wTxt a k)) t2)] [(W, oW'), (L + 4, o4), (L + 5, o5), (L + 3, o3), (D2, listOf ys2 ep2), (L + 2, o2), (D, listOf ys ep), (L + 1, c1)] s' ∧
      (AllBare s.gens → AllBare g') ∧ oW'.IsDictOf (PySem.strKind PySem.Challenge.pw_rw0052_01 w) kvs ∧ DRel (wDict a N) kvs)
    N ⟨0, _, _, oW, c4, c5, [], none, none, by (clear hh hr hla ab hc1 hc4 hc5 hD5 ho2 hA hLD2 hD52 hDD2 hk2 ho3 lW hm hml hm' hN hNle hNpos eR hI1 hI4 hI5 hW5; omega), S11.drop (by repeat (first | exact sub_nil | refine sub_cons (by repeat (first | exact List.Mem.head _ | apply List.Mem.tail)) ?_ | (intro p hp; repeat (first | exact hp | apply List.Mem.tail)))), fun h => h, dW, .nil, List.nodup_nil, Nat.le_refl _, hc4, hc5, rfl, fun k hk => by cases hk⟩ ?_ ?_
  · rintro n Tv Xv hTv hXv s5 ⟨i, g', l', oW', o4, o5, kvs, v4, v5, hin, S5, hb, dW', hK, hnd, hlen, ho4, ho5, hlw, hlk⟩
    refine r_nextRange hh S5 (fun p hp => ?_) ?_ ?_
    · simp only [List.mem_cons, List.not_mem_nil, or_false] at hp
      rcases hp with rfl | rfl | rfl | rfl | rfl | rfl | rfl | rfl
      · exact Nat.ne_of_lt (hI (W, oW) (by (repeat (first | exact List.Mem.head _ | apply List.Mem.tail))))
      · exact Nat.ne_of_lt hI4
      · exact Nat.ne_of_lt hI5
      · exact Nat.ne_of_lt (hI (L + 3, o3) (by (repeat (first | exact List.Mem.head _ | apply List.Mem.tail))))
      · exact Nat.ne_of_lt (hI (D2, listOf ys2 ep2) (by (repeat (first | exact List.Mem.head _ | apply List.Mem.tail))))
      · exact Nat.ne_of_lt (hI (L + 2, o2) (by (repeat (first | exact List.Mem.head _ | apply List.Mem.tail))))
      · exact Nat.ne_of_lt (hI (D, listOf ys ep) (by (repeat (first | exact List.Mem.head _ | apply List.Mem.tail))))
      · exact Nat.ne_of_lt hI1
    rotate_left
    · intro hle s6 S6
      have hi : i = N := by (clear hh hr hla ab hc1 hc4 hc5 hD5 ho2 hA hLD2 hD52 hDD2 hk2 ho3 lW hm hml hm' hN hNle hNpos hI1 hI4 hI5 hW5 hlen ho4 ho5 hlw; omega)
      subst hi
      obtain ⟨k, hk⟩ : ∃ k, i = k + 1 := ⟨i - 1, by (clear hh hr hla ab hc1 hc4 hc5 hD5 ho2 hA hLD2 hD52 hDD2 hk2 ho3 lW hm hml hm' hI1 hI4 hI5 hW5 hlen ho4 ho5 hlw hin hle; omega)⟩
      obtain ⟨t1, t2, e1, e2⟩ := hlk k hk
      exact hXv _ ⟨k, g', oW', o4, o5, kvs, t1, t2, hk.symm, St.re S6 ⟨hlw, e1, e2, trivial⟩, hb, dW', hK⟩
    intro hlt ti s6 S6
    have hiN : i < N := by (clear hh hr hla ab hc1 hc4 hc5 hD5 ho2 hA hLD2 hD52 hDD2 hk2 ho3 lW hm hml hm' hN hNle hNpos hI1 hI4 hI5 hW5 hlen ho4 ho5 hlw; omega)
    show wpAny _ _ (letOwnedTupleGo _ _ _) _ _ _
    refine r_letName ?_
    have S6 := St.re (l' := [("ways", .ref W)]) S6 ⟨hlw, trivial⟩
    have S6 := S6.drop (news' := [(L + 4, o4), (I, rangeIt ((i : Int) + 1) ((N : Int) - i - 1) 1), (W, oW'), (L + 5, o5), (L + 3, o3), (D2, listOf ys2 ep2), (L + 2, o2), (D, listOf ys ep), (L + 1, c1)]) (by repeat (first | exact sub_nil | refine sub_cons (by repeat (first | exact List.Mem.head _ | apply List.Mem.tail)) ?_ | (intro p hp; repeat (first | exact hp | apply List.Mem.tail))))
    refine r_assignCellE S6 rfl ho4 (.head (fun p hp => ?_)) ?_
    · simp only [List.mem_cons, List.not_mem_nil, or_false] at hp
      rcases hp with rfl | rfl | rfl | rfl | rfl | rfl | rfl | rfl
      · exact Nat.ne_of_gt hI4
      · exact ne_top (L := L) (i := 5) (j := 4) hW5 (by decide)
      · exact ne_add (L := L) (i := 5) (j := 4) (by decide)
      · exact ne_add (L := L) (i := 3) (j := 4) (by decide)
      · exact ne_top (L := L) (i := 5) (j := 4) hD52 (by decide)
      · exact ne_add (L := L) (i := 2) (j := 4) (by decide)
      · exact ne_top (L := L) (i := 5) (j := 4) hD5 (by decide)
      · exact ne_add (L := L) (i := 1) (j := 4) (by decide)
    intro s7 S7
    generalize hb4 : ({ o4 with data := .cell (some (.int (i : Int) ti)) } : Obj) = o4' at S7
    have ho4' : o4'.data = .cell (some (.int (i : Int) ti)) := by rw [← hb4]
    clear hb4 ho4 S6 S5
    refine r_cons ?_; refine wpAny_Assign_Name ?_
    refine r_comp (cl := [("heads", L + 3), ("choice", L + 4)]) rfl (by decide) rfl (by decide) (fun _ => rfl) ?_
    refine Call_ ?_; refine r_builtinE (by assumption) (by assumption) (by rfl) (by first | reg3_boot | boot_fact) (by decide) ?_
    refine PyProof.Rows.callWith_type1 ?_; refine args_cons ?_; refine Call_ ?_
    refine r_builtinE (by assumption) (by assumption) (by rfl) (by first | reg3_boot | boot_fact) (by decide) ?_
    refine PyProof.Rows.callWith_builtin1 ?_; refine args_cons ?_
    refine r_cellE (by assumption) (by rfl) (by first | assumption | (repeat (first | exact List.Mem.head _ | apply List.Mem.tail))) (by assumption) ?_
    refine args_nil ?_
    refine r_lenL (by assumption) (by (repeat (first | exact List.Mem.head _ | apply List.Mem.tail))) (by rw [← Array.length_toList, hm]; exact Nat.le_trans hml (by decide)) ?_
    intro t9 s9 S9
    rw [hm']
    refine args_nil ?_; refine r_range1 (by assumption) ?_; intro _ _ _ _ _ _ _
    refine r_iterRange (by assumption) (.head _) (small_one (by (clear hh hr hla ab hc1 hc4 hc5 hD5 ho2 hA hLD2 hD52 hDD2 hk2 ho3 lW hm hml hm' hN hNle hNpos eR hI1 hI4 hI5 hW5 hin hlen ho5 hlw hlt hiN ho4'; omega)) (by (clear hh hr hla ab hc1 hc4 hc5 hD5 ho2 hA hLD2 hD52 hDD2 hk2 ho3 lW hm hml hm' hN hNle hNpos eR hI1 hI4 hI5 hW5 hin hlen ho5 hlw hlt hiN ho4'; omega)) (by (clear hh hr hla ab hc1 hc4 hc5 hD5 ho2 hA hLD2 hD52 hDD2 hk2 ho3 lW hm hN hNle hNpos eR hI1 hI4 hI5 hW5 hin hlen ho5 hlw hlt hiN ho4'; omega)) (by (clear hh hr hla ab hc1 hc4 hc5 hD5 ho2 hA hLD2 hD52 hDD2 hk2 ho3 lW hm hN hNle hNpos eR hI1 hI4 hI5 hW5 hin hlen ho5 hlw hlt hiN ho4'; omega))) ?_
    intro I3 s10 hI3 S10
    have eR3 : Builtin.Range.rangeSize 0 ((wHeads a).length : Int) 1 = (wHeads a).length := by rw [rangeSize_nat]; simp
    rw [eR3] at S10
    have hR2' : Rel2 (fun (k : Nat) (v : Value) => ∃ t, v = .int (k : Int) t) (wHeads a) ys2.toList := hR2
    have hgd : ∀ k, k < (wHeads a).length → (wHeads a)[k]? = some ((wHeads a).getD k 0) := fun k hk => by
      rw [List.getD_eq_getElem?_getD, List.getElem?_eq_getElem hk]; rfl
    apply comp_iter (Iter.range (by exact hh) I3 (wHeads a).length) (R := fun k v => IV (((wHeads a).getD k 0 : Nat) : Int) v) (p := fun k => i / 2 ^ k % 2 == 1) (hL₀ := rfl) (S := S10) (hI := by show rangeIt _ _ _ = rangeIt _ _ _; simp) (hd := hI3) (hlen := by rw [List.length_range]; (clear hh hr hla ab hc1 hc4 hc5 hD5 ho2 hA hLD2 hD52 hDD2 hk2 ho3 lW hm hN hNle hNpos eR hI1 hI4 hI5 hW5 hin hlen ho5 hlw hlt hiN ho4'; omega)) (hk := rfl) (hx := rfl)
    · rintro j k v C N' l'' s₃ hk ⟨tk, rfl⟩ hN' S3 Q hQ
      have hka : k < (wHeads a).length := by
        have := List.mem_of_getElem? hk
        simpa using this
      have hm4 : (L + 4, o4') ∈ N' := hN' _ (by (repeat (first | exact List.Mem.head _ | apply List.Mem.tail)))
      refine ifs_one ?_
      refine wpAny_isTrue_Compare1 ?_; refine wpAny_BinOp ?_; refine wpAny_BinOp ?_
      refine r_cellE (by assumption) (by rfl) (by first | assumption | (repeat (first | exact List.Mem.head _ | apply List.Mem.tail))) (by assumption) ?_
      refine wpAny_BinOp ?_; refine r_int (by assumption) ?_; intro _ _ _; refine r_nameE (by assumption) (by rfl) ?_
      refine r_pow2 (by assumption) (by (clear hh hr hla ab hc1 hc4 hc5 hD5 ho2 hA hLD2 hD52 hDD2 hk2 ho3 lW hm hN hNle hNpos eR hI1 hI4 hI5 hW5 hin hlen ho5 hlw hlt hiN ho4' hk; omega)) ?_
      intro t4 s4 S4
      have hpp : 2 ^ k ≤ 256 := Nat.le_trans (Nat.pow_le_pow_right (by decide) (by (clear hh hr hla ab hc1 hc4 hc5 hD5 ho2 hA hLD2 hD52 hDD2 hk2 ho3 lW hm hN hNle hNpos eR hI1 hI4 hI5 hW5 hin hlen ho5 hlw hlt hiN ho4' hk; omega) : k ≤ 8)) (by decide)
      have hpq : 0 < 2 ^ k := Nat.pow_pos (by decide)
      generalize hp : 2 ^ k = pk at *
      refine r_fdiv (by assumption) (by (clear hh hr hla ab hc1 hc4 hc5 hD5 ho2 hA hLD2 hD52 hDD2 hk2 ho3 lW hm hml hm' hN hNle hNpos eR hI1 hI4 hI5 hW5 hin hlen ho5 hlw hlt hiN ho4' eR3 hk hka hp; omega)) (by (clear hh hr hla ab hc1 hc4 hc5 hD5 ho2 hA hLD2 hD52 hDD2 hk2 ho3 lW hm hml hm' hN hNle hNpos eR hI1 hI4 hI5 hW5 hin hlen ho5 hlw hlt hiN ho4' eR3 hk hka hp; omega)) ?_
      intro t5 s5 S5
      refine r_int (by assumption) ?_; intro _ _ _; refine r_mod (by assumption) (by decide) ?_; intro _ _ _
      refine r_int (by assumption) ?_; intro _ _ _; refine PyProof.Rows.eq_int ?_; refine wpAny_truthy_bool ?_
      have e0 : (Int.fmod (Int.fdiv (i : Int) (pk : Int)) 2 == 1) = (i / pk % 2 == 1) := by
        rw [Int.fdiv_eq_ediv_of_nonneg _ (by (clear hh hr hla ab hc1 hc4 hc5 hD5 ho2 hA hLD2 hD52 hDD2 hk2 ho3 lW hm hml hm' hN hNle hNpos eR hI1 hI4 hI5 hW5 hin hlen ho5 hlw hlt hiN ho4' eR3 hk hka hp; omega)), Int.fmod_eq_emod_of_nonneg _ (by (clear hh hr hla ab hc1 hc4 hc5 hD5 ho2 hA hLD2 hD52 hDD2 hk2 ho3 lW hm hml hm' hN hNle hNpos eR hI1 hI4 hI5 hW5 hin hlen ho5 hlw hlt hiN ho4' eR3 hk hka hp hpp hpq; omega)), Bool.eq_iff_iff, beq_iff_eq, beq_iff_eq]
        (clear hh hr hla ab hc1 hc4 hc5 hD5 ho2 hA hLD2 hD52 hDD2 hk2 ho3 lW hm hml hm' hN hNle hNpos eR hI1 hI4 hI5 hW5 hin hlen ho5 hlw hlt hiN ho4' eR3 hk hka hp hpp hpq; omega)
      rw [e0]
      exact hQ _ (by assumption)
    · rintro j k v C N' l'' s₃ hk ⟨tk, rfl⟩ _ hN' S3 Q hQ
      have hka : k < (wHeads a).length := by
        have := List.mem_of_getElem? hk
        simpa using this
      have hm3 : (L + 3, o3) ∈ N' := hN' _ (by (repeat (first | exact List.Mem.head _ | apply List.Mem.tail)))
      have hmD : (D2, listOf ys2 ep2) ∈ N' := hN' _ (by (repeat (first | exact List.Mem.head _ | apply List.Mem.tail)))
      refine Subscript_ ?_
      refine r_cellE (by assumption) (by rfl) (by first | assumption | (repeat (first | exact List.Mem.head _ | apply List.Mem.tail))) (by assumption) ?_
      refine r_nameE (by assumption) (by rfl) ?_
      obtain ⟨v, hv, tv, rfl⟩ := hR2'.get k _ (hgd k hka)
      refine r_item (vs := ys2.toList) S3 hmD (by rw [Int.toNat_natCast]; exact hv) (by (clear hh hr hla ab hc1 hc4 hc5 hD5 ho2 hA hLD2 hD52 hDD2 hk2 ho3 lW hm hml hm' hN hNle hNpos eR hI1 hI4 hI5 hW5 hin hlen ho5 hlw hlt hiN ho4' eR3 hk hka hv; omega)) (by (clear hh hr hla ab hc1 hc4 hc5 hD5 ho2 hA hLD2 hD52 hDD2 hk2 ho3 lW hm hN hNle hNpos eR hI1 hI4 hI5 hW5 hin hlen ho5 hlw hlt hiN ho4' hk hv; omega)) ?_
      exact hQ _ _ ⟨tv, rfl⟩ S3
    intro C3 D3 ys3 ep3 hR3 hDb3 _ s11 S11'
    have hR3' : Rel2 IV ((wHid (wHeads a) i).map fun n => ((n : Nat) : Int)) ys3.toList := by
      have := Rel2.map2 (f := fun k => (((wHeads a).getD k 0 : Nat) : Int)) (R' := IV) (fun _ _ h => h) hR3
      have e : (wHid (wHeads a) i).map (fun n => ((n : Nat) : Int)) = ((List.range (wHeads a).length).filter fun k => i / 2 ^ k % 2 == 1).map fun k => (((wHeads a).getD k 0 : Nat) : Int) := by
        unfold wHid; rw [List.map_map]; rfl
      rw [e]; exact this
    have hD53 : L + 5 < D3 := hDb3 (L + 5, o5) (by (repeat (first | exact List.Mem.head _ | apply List.Mem.tail)))
    have S11' := S11'.drop (news' := [(L + 5, o5), (D3, listOf ys3 ep3), (L + 4, o4'), (I, rangeIt ((i : Int) + 1) ((N : Int) - i - 1) 1), (W, oW'), (L + 3, o3), (D2, listOf ys2 ep2), (L + 2, o2), (D, listOf ys ep), (L + 1, c1)]) (by repeat (first | exact sub_nil | refine sub_cons (by repeat (first | exact List.Mem.head _ | apply List.Mem.tail)) ?_ | (intro p hp; repeat (first | exact hp | apply List.Mem.tail))))
    refine r_storeCellE S11' rfl ho5 (.head (fun p hp => ?_)) ?_
    · simp only [List.mem_cons, List.not_mem_nil, or_false] at hp
      rcases hp with rfl | rfl | rfl | rfl | rfl | rfl | rfl | rfl | rfl
      · exact ne_top (L := L) (i := 5) (j := 5) hD53 (by decide)
      · exact ne_add (L := L) (i := 4) (j := 5) (by decide)
      · exact Nat.ne_of_gt hI5
      · exact ne_top (L := L) (i := 5) (j := 5) hW5 (by decide)
      · exact ne_add (L := L) (i := 3) (j := 5) (by decide)
      · exact ne_top (L := L) (i := 5) (j := 5) hD52 (by decide)
      · exact ne_add (L := L) (i := 2) (j := 5) (by decide)
      · exact ne_top (L := L) (i := 5) (j := 5) hD5 (by decide)
      · exact ne_add (L := L) (i := 1) (j := 5) (by decide)
    intro s12 S12
    generalize hb5 : ({ o5 with data := .cell (some (.ref D3)) } : Obj) = o5' at S12
    have ho5' : o5'.data = .cell (some (.ref D3)) := by rw [← hb5]
    clear hb5 ho5 S11'
    refine SeqQ.go ?_; refine r_cons ?_; refine wpAny_Assign_Name ?_; refine MethodCall_ ?_; refine r_str (by assumption) ?_; intro _ _ _
    refine GM.join ?_; refine PyProof.Rows.callWith_method1 ?_; refine args_cons ?_
    refine r_comp (cl := [("hidden", L + 5), ("bare", L + 2)]) rfl (by decide) rfl (by decide) (fun _ => rfl) ?_
    refine Call_ ?_; refine r_builtinE (by assumption) (by assumption) (by rfl) (by first | reg3_boot | boot_fact) (by decide) ?_
    refine PyProof.Rows.callWith_type1 ?_; refine args_cons ?_; refine Call_ ?_
    refine r_builtinE (by assumption) (by assumption) (by rfl) (by first | reg3_boot | boot_fact) (by decide) ?_
    refine PyProof.Rows.callWith_builtin1 ?_; refine args_cons ?_
    refine r_cellE (by assumption) (by rfl) (by first | assumption | (repeat (first | exact List.Mem.head _ | apply List.Mem.tail))) (by assumption) ?_
    refine args_nil ?_; refine r_lenS (by assumption) (by assumption) ?_; intro _ _ _; refine args_nil ?_
    refine r_range1 (by assumption) ?_; intro _ _ _ _ _ _ _
    rw [T_len] at *
    have hA : (T a).length ≤ 1000000 := by rw [T_len]; (clear hh hr hla ab hc1 hc4 hc5 hD5 ho2 hLD2 hD52 hDD2 hk2 ho3 lW hm hml hm' hN hNle hNpos eR hI1 hI4 hI5 hW5 hin hlen hlw hlt hiN ho4' eR3 hD53 ho5'; omega)
    refine r_iterRange (by assumption) (.head _) (small_one (by (clear hh hr hla ab hc1 hc4 hc5 hD5 ho2 hLD2 hD52 hDD2 hk2 ho3 lW hm hml hm' hN hNle hNpos eR hI1 hI4 hI5 hW5 hin hlen hlw hlt hiN ho4' eR3 hD53 ho5' hA; omega)) (by (clear hh hr hla ab hc1 hc4 hc5 hD5 ho2 hLD2 hD52 hDD2 hk2 ho3 lW hm hml hm' hN hNle hNpos eR hI1 hI4 hI5 hW5 hin hlen hlw hlt hiN ho4' eR3 hD53 ho5' hA; omega)) (by (clear hh hr ab hc1 hc4 hc5 hD5 ho2 hLD2 hD52 hDD2 hk2 ho3 lW hm hml hm' hN hNle hNpos eR hI1 hI4 hI5 hW5 hin hlen hlw hlt hiN ho4' eR3 hD53 ho5' hA; omega)) (by (clear hh hr ab hc1 hc4 hc5 hD5 ho2 hLD2 hD52 hDD2 hk2 ho3 lW hm hml hm' hN hNle hNpos eR hI1 hI4 hI5 hW5 hin hlen hlw hlt hiN ho4' eR3 hD53 ho5' hA; omega))) ?_
    intro I4 s13 hI4' S13
    have eR4 : Builtin.Range.rangeSize 0 (a.length : Int) 1 = a.length := by rw [rangeSize_nat]; simp
    rw [eR4] at S13
    have hspl : ∀ c : Nat, (spl [34, 92] [c]).length ≤ 2 := fun c => by
      simp only [spl, List.map_cons, List.map_nil, List.flatten_cons, List.flatten_nil, List.append_nil]
      split <;> simp
    apply comp_iter (Iter.range (by exact hh) I4 a.length) (R := fun k v => TV (if (wHid (wHeads a) i).contains k then 34 :: (spl [34, 92] [a.getD k 0] ++ [34]) else spl [34, 92] [a.getD k 0]) v) (p := fun _ => true) (hL₀ := rfl) (S := S13) (hI := by show rangeIt _ _ _ = rangeIt _ _ _; simp) (hd := hI4') (hlen := by rw [List.length_range]; (clear hh hr hla ab hc1 hc4 hc5 hD5 ho2 hLD2 hD52 hDD2 hk2 ho3 lW hm hml hm' hN hNle hNpos eR hI1 hI4 hI5 hW5 hin hlen hlw hlt hiN ho4' eR3 hD53 ho5' hA eR4; omega)) (hk := rfl) (hx := rfl)
    · intro j k v C N' l'' s₃ _ _ _ S3 Q hQ
      exact ifs_nil (hQ _ S3)
    · rintro j k v C N' l'' s₃ hk ⟨tk, rfl⟩ _ hN' S3 Q hQ
      have hka : k < a.length := by
        have := List.mem_of_getElem? hk
        simpa using this
      have hm2 : (L + 2, o2) ∈ N' := hN' _ (by (repeat (first | exact List.Mem.head _ | apply List.Mem.tail)))
      have hm5 : (L + 5, o5') ∈ N' := hN' _ (by (repeat (first | exact List.Mem.head _ | apply List.Mem.tail)))
      have hmD : (D, listOf ys ep) ∈ N' := hN' _ (by (repeat (first | exact List.Mem.head _ | apply List.Mem.tail)))
      have hmD3 : (D3, listOf ys3 ep3) ∈ N' := hN' _ (by (repeat (first | exact List.Mem.head _ | apply List.Mem.tail)))
      have hak : a[k]? = some (a.getD k 0) := by rw [List.getD_eq_getElem?_getD, List.getElem?_eq_getElem hka]; rfl
      obtain ⟨v, hv, tv, rfl⟩ := hRb.get k _ hak
      refine r_ifexp ?_; refine wpAny_isTrue_Compare1 ?_; refine r_nameE (by assumption) (by rfl) ?_
      refine r_cellE (by assumption) (by rfl) (by first | assumption | (repeat (first | exact List.Mem.head _ | apply List.Mem.tail))) (by assumption) ?_
      refine r_inInts (vs := ys3.toList) S3 hmD3 hR3'.ints ?_
      have e0 : ((wHid (wHeads a) i).map fun n => ((n : Nat) : Int)).any (· == (k : Int)) = (wHid (wHeads a) i).contains k := by
        rw [List.any_map, Bool.eq_iff_iff, List.any_eq_true, List.contains_iff_mem]
        constructor
        · rintro ⟨y, hy, he⟩
          have : y = k := by simp at he; (clear hh hr hla ab hc1 hc4 hc5 hD5 ho2 hLD2 hD52 hDD2 hk2 ho3 lW hm hml hm' hN hNle hNpos eR hI1 hI4 hI5 hW5 hin hlen hlw hlt hiN ho4' eR3 hD53 ho5' hA eR4 hk hka hak hv; omega)
          exact this ▸ hy
        · intro hx; exact ⟨k, hx, by simp⟩
      rw [e0]
      refine wpAny_truthy_bool ?_
      refine Br.split (fun e => ?_) (fun e => ?_)
      · refine wpAny_BinOp ?_; refine wpAny_BinOp ?_; refine r_str (by assumption) ?_; intro _ _ _; refine Subscript_ ?_
        refine r_cellE (by assumption) (by rfl) (by first | assumption | (repeat (first | exact List.Mem.head _ | apply List.Mem.tail))) (by assumption) ?_
        refine r_nameE (by assumption) (by rfl) ?_
        refine r_item (vs := ys.toList) (by assumption) hmD (by rw [Int.toNat_natCast]; exact hv) (by (clear hh hr hla ab hc1 hc4 hc5 hD5 ho2 hLD2 hD52 hDD2 hk2 ho3 lW hm hml hm' hN hNle hNpos eR hI1 hI4 hI5 hW5 hin hlen hlw hlt hiN ho4' eR3 hD53 ho5' hA eR4 hk hka hak hv e0 e; omega)) (by (clear hh hr ab hc1 hc4 hc5 hD5 ho2 hLD2 hD52 hDD2 hk2 ho3 lW hm hml hm' hN hNle hNpos eR hI1 hI4 hI5 hW5 hin hlen hlw hlt hiN ho4' eR3 hD53 ho5' hA eR4 hk hak hv e0 e; omega)) ?_
        refine r_adds (by assumption) ?_ ?_
        · rw [dq_eq, T_len, T_len, sizeLine_eq]; have := hspl (a.getD k 0); simp only [List.length_cons, List.length_nil]; (clear hh hr hla ab hc1 hc4 hc5 hD5 ho2 hLD2 hD52 hDD2 hk2 ho3 lW hm hml hm' hN hNle hNpos eR hI1 hI4 hI5 hW5 hin hlen hlw hlt hiN ho4' eR3 hD53 ho5' hA eR4 hk hka hak hv e0 e; omega)
        intro t4 s4 S4
        refine r_str (by assumption) ?_; intro _ _ _
        refine r_adds (by assumption) ?_ ?_
        · rw [dq_eq, T_append, T_len, T_len, sizeLine_eq]; have := hspl (a.getD k 0); simp only [List.length_cons, List.length_nil, List.length_append]; (clear hh hr hla ab hc1 hc4 hc5 hD5 ho2 hLD2 hD52 hDD2 hk2 ho3 lW hm hml hm' hN hNle hNpos eR hI1 hI4 hI5 hW5 hin hlen hlw hlt hiN ho4' eR3 hD53 ho5' hA eR4 hk hka hak hv e0 e; omega)
        intro t5 s5 S5
        rw [dq_eq, T_append, T_append]
        exact hQ _ _ ⟨t5, by rw [if_pos e]; rfl⟩ S5
      · refine Subscript_ ?_
        refine r_cellE (by assumption) (by rfl) (by first | assumption | (repeat (first | exact List.Mem.head _ | apply List.Mem.tail))) (by assumption) ?_
        refine r_nameE (by assumption) (by rfl) ?_
        refine r_item (vs := ys.toList) (by assumption) hmD (by rw [Int.toNat_natCast]; exact hv) (by (clear hh hr hla ab hc1 hc4 hc5 hD5 ho2 hLD2 hD52 hDD2 hk2 ho3 lW hm hml hm' hN hNle hNpos eR hI1 hI4 hI5 hW5 hin hlen hlw hlt hiN ho4' eR3 hD53 ho5' hA eR4 hk hka hak hv e0 e; omega)) (by (clear hh hr ab hc1 hc4 hc5 hD5 ho2 hLD2 hD52 hDD2 hk2 ho3 lW hm hml hm' hN hNle hNpos eR hI1 hI4 hI5 hW5 hin hlen hlw hlt hiN ho4' eR3 hD53 ho5' hA eR4 hk hak hv e0 e; omega)) ?_
        exact hQ _ _ ⟨tv, by rw [if_neg (by rw [e]; exact Bool.false_ne_true)]⟩ (by assumption)
    intro C4 D4 ys4 ep4 hR4 hDb4 _ s14 S14
    rw [List.filter_eq_self.mpr (fun _ _ => rfl)] at hR4
    refine args_nil ?_; change wpAny _ _ (call _ [_, _]) _ _ _
    rw [em_eq]
    have htl : ∀ c ∈ wTxt a i, c < 128 := wTxt_lt a i haa
    have htn : (wTxt a i).length ≤ 4 * a.length := wTxt_len a i
    refine r_join S14 (.head _) hR4.map (by show (wTxt a i).length ≤ _; (clear hh hr ab hc1 hc4 hc5 hD5 ho2 hLD2 hD52 hDD2 hk2 ho3 lW hm hml hm' hN hNle hNpos eR hI1 hI4 hI5 hW5 hin hlen hlw hlt hiN ho4' eR3 hD53 ho5' hA eR4; omega)) ?_
    intro t15 s15 S15
    have S15 : St g' s.os s.heap L _ _ s15 := S15
    have eT : ((List.range a.length).map fun k => if (wHid (wHeads a) i).contains k then 34 :: (spl [34, 92] [a.getD k 0] ++ [34]) else spl [34, 92] [a.getD k 0]).flatten = wTxt a i := rfl
    rw [eT]
    refine r_storeE (by assumption) ?_; intro _ _; refine SeqQ.go ?_; refine r_cons ?_; refine wpAny_Assign_Name ?_; refine Call_ ?_
    refine r_globalE (by assumption) (by assumption) (gvstripquotedrealnames _) ?_; refine r_callK (by assumption) (by assumption) (by rfl) ?_
    refine args_cons ?_; refine r_nameE (by assumption) (by rfl) ?_; refine args_nil ?_; refine k_and (by assumption) (by assumption) ?_
    refine strip_spec ?_ hh ?_ htl (by (clear hh hr ab hc1 hc4 hc5 hD5 ho2 hLD2 hD52 hDD2 hk2 ho3 lW hm hml hm' hN hNle hNpos eR hI1 hI4 hI5 hW5 hin hlen hlw hlt hiN ho4' eR3 hD53 ho5' hA eR4 eT; omega)) ?_
    · exact St.base (by assumption) B
    · show A.depth + 11 < _; exact dlt hr
    intro t16 s16 G16
    rename_i S15'
    have S16 := S15'.afterG G16
    have hb16 : AllBare s.gens → AllBare s16.gens := fun hg => G16.bare (by rw [S15'.gens]; exact hb hg)
    refine r_storeE (by assumption) ?_; intro _ _; refine SeqQ.go ?_; refine r_cons ?_; refine wpAny_Assign_Subscript ?_; refine wpAny_BinOp ?_
    refine MethodCall_ ?_; refine r_nameE (by assumption) (by rfl) ?_
    refine r_dictGetM (by assumption) (by (repeat (first | exact List.Mem.head _ | apply List.Mem.tail))) dW' ?_
    refine PyProof.Rows.callWith_method1 ?_; refine args_cons ?_; refine r_nameE (by assumption) (by rfl) ?_; refine args_cons ?_
    refine r_int (by assumption) ?_; intro _ _ _; refine args_nil ?_; change wpAny _ _ (call _ [_, _, _]) _ _ _
    have hWsys : (W == sysModules) = false := lW
    refine r_dictGet (by assumption) (by (repeat (first | exact List.Mem.head _ | apply List.Mem.tail))) dW' hWsys ?_
    intro s17 S17
    have hget : ∀ t0, ∃ tg, ((valueAt kvs (T (strip (wTxt a i)))).getD (.int 0 t0)) = .int ((pget (wDict a i) (strip (wTxt a i))).getD 0) tg := by
      intro t0
      have := hK.get (strip (wTxt a i))
      cases hp : pget (wDict a i) (strip (wTxt a i)) with
      | none => rw [hp] at this; rw [this]; exact ⟨_, rfl⟩
      | some n => rw [hp] at this; obtain ⟨tn, e⟩ := this; rw [e]; exact ⟨_, rfl⟩
    obtain ⟨tg, etg⟩ := hget _
    rw [etg]
    refine r_int (by assumption) ?_; intro _ _ _; refine r_add (by assumption) ?_; intro _ _ _; refine r_nameE (by assumption) (by rfl) ?_
    refine r_nameE (by assumption) (by rfl) ?_
    rename_i S18
    have hDW : D < W := hW (D, listOf ys ep) (by (repeat (first | exact List.Mem.head _ | apply List.Mem.tail)))
    have hD2W : D2 < W := hW (D2, listOf ys2 ep2) (by (repeat (first | exact List.Mem.head _ | apply List.Mem.tail)))
    have hWI : W < I := hI (W, oW) (by (repeat (first | exact List.Mem.head _ | apply List.Mem.tail)))
    have S18 := S18.drop (news' := [(W, oW'), (I, rangeIt ((i : Int) + 1) ((N : Int) - i - 1) 1), (L + 4, o4'), (L + 5, o5'), (L + 3, o3), (D2, listOf ys2 ep2), (L + 2, o2), (D, listOf ys ep), (L + 1, c1)]) (by repeat (first | exact sub_nil | refine sub_cons (by repeat (first | exact List.Mem.head _ | apply List.Mem.tail)) ?_ | (intro p hp; repeat (first | exact hp | apply List.Mem.tail))))
    have hwl : (wDict a i).length = kvs.length := hK.len
    rw [show (N : Int) - i - 1 = (N : Int) - ((i + 1 : Nat) : Int) by (clear hh hr hla ab hc1 hc4 hc5 hD5 ho2 hLD2 hD52 hDD2 hk2 ho3 lW hm hml hm' hN hNle hNpos eR hI1 hI4 hI5 hW5 hin hlen hlw hlt hiN ho4' eR3 hD53 ho5' hA eR4 htn eT hWsys etg hDW hD2W hWI hwl; omega), show (i : Int) + 1 = ((i + 1 : Nat) : Int) from rfl] at S18
    refine r_dictSet S18 (.head _) (fun o' => .head (fun p hp => ?_)) dW' (by (clear hh hr hla ab hc1 hc4 hc5 hD5 ho2 hLD2 hD52 hDD2 hk2 ho3 lW hm hml hm' hN hI1 hI4 hI5 hW5 hlw hiN ho4' eR3 hD53 ho5' hA eR4 htn eT hWsys etg hDW hD2W hWI; omega)) ?_
    · simp only [List.mem_cons, List.not_mem_nil, or_false] at hp
      rcases hp with rfl | rfl | rfl | rfl | rfl | rfl | rfl | rfl
      · exact Nat.ne_of_gt hWI
      · exact (ne_top (L := L) (i := 5) (j := 4) hW5 (by decide)).symm
      · exact (ne_top (L := L) (i := 5) (j := 5) hW5 (by decide)).symm
      · exact (ne_top (L := L) (i := 5) (j := 3) hW5 (by decide)).symm
      · exact Nat.ne_of_lt hD2W
      · exact (ne_top (L := L) (i := 5) (j := 2) hW5 (by decide)).symm
      · exact Nat.ne_of_lt hDW
      · exact (ne_top (L := L) (i := 5) (j := 1) hW5 (by decide)).symm
    intro oW2 s19 dW2 S19
    have eW : wDict a (i + 1) = pput (wDict a i) (strip (wTxt a i)) ((pget (wDict a i) (strip (wTxt a i))).getD 0 + 1) := by
      unfold wDict; rw [List.range_succ, List.foldl_append]; rfl
    refine SeqQ.go ?_; refine r_nil ?_
    refine hTv _ _ ⟨n - 1, (turn_lt hin hiN).1, i + 1, s16.gens, _, oW2, o4', o5', _, _, _, (turn_lt hin hiN).2, S19.drop (by repeat (first | exact sub_nil | refine sub_cons (by repeat (first | exact List.Mem.head _ | apply List.Mem.tail)) ?_ | (intro p hp; repeat (first | exact hp | apply List.Mem.tail)))), hb16, dW2, ?_, ?_, ?_, ho4', ho5', rfl, ?_⟩
    · rw [eW]; exact hK.put hnd _ _ _
    · rw [eW]; exact hnd.put _ _
    · rw [eW]; exact Nat.le_trans (pput_len _ _ _) (by (clear hh hr hla ab hc1 hc4 hc5 hD5 ho2 hLD2 hD52 hDD2 hk2 ho3 lW hm hml hm' hN hNle hNpos eR hI1 hI4 hI5 hW5 hin hlw hlt hiN ho4' eR3 hD53 ho5' hA eR4 htn eT hWsys etg hDW hD2W hWI eW; omega))
    · intro k hk
      have : k = i := by (clear hh hr hla ab hc1 hc4 hc5 hD5 ho2 hLD2 hD52 hDD2 hk2 ho3 lW hm hml hm' hN hNle hNpos eR hI1 hI4 hI5 hW5 hin hlen hlw hlt hiN ho4' eR3 hD53 ho5' hA eR4 htn eT hWsys etg hDW hD2W hWI hwl eW; omega)
      subst this
      exact ⟨_, _, rfl, rfl⟩
  rintro s5 ⟨k, g', oW', o4, o5, kvs, t1, t2, hk, S5, hb, dW', hK⟩
  have htl : ∀ c ∈ wTxt a k, c < 128 := wTxt_lt a k haa
  have htn : (wTxt a k).length ≤ 4 * a.length := wTxt_len a k
  have hbl : (wBare a).flatten.length ≤ 2 * a.length := by
    have := flat_len 2 (wBare a) (fun x hx => by obtain ⟨c, _, rfl⟩ := List.mem_map.mp hx; exact spl1_len c)
    rwa [wBare, List.length_map] at this
  have hbm : ∀ c ∈ (wBare a).flatten, c < 128 := fun c hc => by
    obtain ⟨l, hl, hc⟩ := List.mem_flatten.mp hc
    obtain ⟨x, hx, rfl⟩ := List.mem_map.mp hl
    rcases spl_mem _ _ _ hc with rfl | h
    · decide
    · rcases List.mem_singleton.mp h with rfl; exact haa _ hx
  refine SeqQ.go ?_; refine r_cons ?_; refine wpAny_Assign_Name ?_; refine wpAny_BinOp ?_; refine r_str (by assumption) ?_; intro _ _ _
  refine MethodCall_ ?_; refine r_str (by assumption) ?_; intro _ _ _; refine GM.join ?_; refine PyProof.Rows.callWith_method1 ?_
  refine args_cons ?_
  refine r_cellE (by assumption) (by rfl) (by first | assumption | (repeat (first | exact List.Mem.head _ | apply List.Mem.tail))) (by assumption) ?_
  refine args_nil ?_; change wpAny _ _ (call _ [_, _]) _ _ _
  rw [em_eq]
  refine r_join (by assumption) (by (repeat (first | exact List.Mem.head _ | apply List.Mem.tail))) hRb.map (by show (wBare a).flatten.length ≤ _; (clear hh hr ab hc1 hc4 hc5 hD5 ho2 hA hLD2 hD52 hDD2 hk2 ho3 lW hm hml hm' hN hNle hNpos eR hI1 hI4 hI5 hW5 hk htn; omega)) ?_
  intro t6 s6 S6
  have eB : (a.map fun c => spl [34, 92] [c]).flatten = (wBare a).flatten := rfl
  rw [eB]
  refine r_adds (by assumption) ?_ ?_
  · rw [dq_eq, T_len, T_len, sizeLine_eq]; simp only [List.length_cons, List.length_nil]; (clear hh hr ab hc1 hc4 hc5 hD5 ho2 hA hLD2 hD52 hDD2 hk2 ho3 lW hm hml hm' hN hNle hNpos eR hI1 hI4 hI5 hW5 hk htn eB; omega)
  intro t7 s7 S7
  rw [dq_eq, T_append, show ([34] ++ (wBare a).flatten) = wTail a from rfl]
  have hwt : (wTail a).length ≤ 2 * a.length + 1 := by unfold wTail; simp only [List.length_cons]; (clear hh hr hla ab hc1 hc4 hc5 hD5 ho2 hA hLD2 hD52 hDD2 hk2 ho3 lW hm hml hm' hN hNle hNpos eR hI1 hI4 hI5 hW5 hk htn eB; omega)
  have hwm : ∀ c ∈ wTail a, c < 128 := fun c hc => by
    rcases List.mem_cons.mp hc with rfl | hc
    · decide
    · exact hbm c hc
  refine r_storeE (by assumption) ?_; intro _ _; refine SeqQ.go ?_; refine r_cons ?_; refine wpAny_Return_some ?_; refine r_ifexp ?_
  refine wpAny_isTrue_Compare1 ?_; refine Call_ ?_; refine r_globalE (by assumption) (by assumption) (gvstripquotedrealnames _) ?_
  refine r_callK (by assumption) (by assumption) (by rfl) ?_; refine args_cons ?_; refine wpAny_BinOp ?_
  refine r_nameE (by assumption) (by rfl) ?_; refine r_nameE (by assumption) (by rfl) ?_
  refine r_adds (by assumption) ?_ ?_
  · rw [T_len, T_len, sizeLine_eq]; (clear hh hr ab hc1 hc4 hc5 hD5 ho2 hA hLD2 hD52 hDD2 hk2 ho3 lW hm hml hm' hN hNle hNpos eR hI1 hI4 hI5 hW5 hk hbl eB; omega)
  intro t8 s8 S8
  rw [T_append]
  refine args_nil ?_; refine k_and (by assumption) (by assumption) ?_
  refine strip_spec ?_ hh ?_ (fun c hc => (List.mem_append.mp hc).elim (htl c) (hwm c)) (by rw [List.length_append]; (clear hh hr ab hc1 hc4 hc5 hD5 ho2 hA hLD2 hD52 hDD2 hk2 ho3 lW hm hml hm' hN hNle hNpos eR hI1 hI4 hI5 hW5 hk hbl eB; omega)) ?_
  · exact St.base (by assumption) B
  · show A.depth + 11 < _; exact dlt hr
  intro t9 s9 G9
  have S9 := S8.afterG G9
  have hb9 : AllBare s.gens → AllBare s9.gens := fun hg => G9.bare (by rw [S8.gens]; exact hb hg)
  refine wpAny_BinOp ?_; refine r_nameE (by assumption) (by rfl) ?_; refine r_nameE (by assumption) (by rfl) ?_
  have hsl : (strip (wTxt a k)).length ≤ 32 * 34 := Nat.le_trans (strip_len _) (Nat.mul_le_mul (by (clear hh hr ab hc1 hc4 hc5 hD5 ho2 hA hLD2 hD52 hDD2 hk2 ho3 lW hm hml hm' hN hNle hNpos eR hI1 hI4 hI5 hW5 hk hbl eB hwt; omega)) (by (clear hh hr ab hc1 hc4 hc5 hD5 ho2 hA hLD2 hD52 hDD2 hk2 ho3 lW hm hml hm' hN hNle hNpos eR hI1 hI4 hI5 hW5 hk hbl eB hwt; omega)))
  refine r_adds (by assumption) ?_ ?_
  · rw [T_len, T_len, sizeLine_eq]; (clear hh hr ab hc1 hc4 hc5 hD5 ho2 hA hLD2 hD52 hDD2 hk2 ho3 lW hm hml hm' hN hNle hNpos eR hI1 hI4 hI5 hW5 hk htn hbl eB; omega)
  intro t10 s10 S10
  rw [T_append]
  refine PyProof.Rows.eq_str ?_
  rw [T_beq]
  refine wpAny_truthy_bool ?_
  have hk' : k = N - 1 := Nat.eq_sub_of_add_eq hk
  subst hk'
  have eWays : ways a = if strip (wTxt a (N - 1) ++ wTail a) == strip (wTxt a (N - 1)) ++ wTail a then wDict a N else [] := by
    unfold ways; rw [hN]
  refine Br.split (fun e => ?_) (fun e => ?_)
  · rw [if_pos e] at eWays
    refine r_nameE (by assumption) (by rfl) ?_; refine SeqQ.ret ?_; refine RetQ.ret ?_
    have hWm := S10.nw (W, oW') (.head _)
    refine h W oW' kvs _ ⟨S10.keep, S10.os, fun hg => by rw [S10.gens]; exact hb9 hg⟩ (Nat.le_trans ab (Nat.le_of_lt (Nat.lt_of_le_of_lt (Nat.le_add_right L 5) hW5))) hWm.2.2 hWm.1 dW' lW ?_
    rw [eWays]; exact hK
  · rw [if_neg (by rw [e]; exact Bool.false_ne_true)] at eWays
    skip
    refine r_dictEmpty S10 (modules_low B.nolimit) ?_
    intro W2 oW2 s11 hW2 lW2 dW2 S11
    refine SeqQ.ret ?_; refine RetQ.ret ?_
    have hWm := S11.nw (W2, oW2) (.head _)
    refine h W2 oW2 [] _ ⟨S11.keep, S11.os, fun hg => by rw [S11.gens]; exact hb9 hg⟩ (Nat.le_trans ab (Nat.le_trans (Nat.le_of_lt (Nat.lt_of_le_of_lt (Nat.le_add_right L 5) hW5)) (Nat.le_of_lt (hW2 (W, oW') (.head _))))) hWm.2.2 hWm.1 dW2 lW2 ?_
    rw [eWays]; exact .nil
end
end Mine
end
section
open PySem PySem.W PyProof.Rows PySem.Calls
set_option Elab.async false
set_option maxRecDepth 100000
set_option maxHeartbeats 1000000
set_option linter.unusedVariables false
namespace Mine
section
variable {prog : Program} {w : World} {A : Around} {E : Value → Shared → Prop} {s : Shared} {g g' : Array GenState} {os : OsState} {h₀ : Heap} {L L' : Addr} {l l' : List (Str × Value)} {news news' : List (Addr × Obj)} {env : Env} {oL : Obj}
/-- back from a callee -/
theorem St.back (S : St g os h₀ L' l' news s) (hm : (L, oL) ∈ news) (hf : FrObj oL l) (hab : h₀.objs.size ≤ L) (hsub : ∀ p ∈ news', p ∈ news ∧ p.1 ≠ L) : St g os h₀ L l news' s :=
  let ⟨_, _, S'⟩ := S.swap hm hf hab hsub; S'.drop fun p hp => .tail _ hp
/-- a def of the top, called: the caller's frame joins the made objects -/
theorem r_callN {f : Addr} {args : List Value} {binds : List (Str × Value)} {fname qual : Str} {params : Arguments} {body : List Stmt} {fscope : Scope} {dV kV doc pm cdv ct oc : Value} {an od : Option Addr} {osl : Array (Option Value)} {Q : Value → Shared → Prop}
    (ho : (KK w).lookup f = some ⟨oc, od, .func (fnOf fname qual params body fscope dV kV doc pm an cdv ct), osl⟩) (hcd : codeIn (KK w) cdv qual = true)
    (hbind : bindArgs (fnOf fname qual params body fscope dV kV doc pm an cdv ct) ⟨args, []⟩ = pure binds) (hloc : (binds.all fun x => decide (fscope.names.lookup x.1 = some .local)) = true)
    (S : St g os h₀ L l news s) (B : Base w h₀) (hroom : A.depth < recursionLimit)
    (h : ∀ L' oL s₁, FrObj oL l → L < L' → (∀ p ∈ news, p.1 < L') → St g os h₀ L' binds.reverse ((L, oL) :: news) s₁ → wpAny (model prog w) (A.deeper (envOf qual fscope L' f cdv)) (execs body (envOf qual fscope L' f cdv)) (RetQ Q) (fun _ _ => False) s₁)
    (hcell : ∀ x ∈ fscope.names, x.2 ≠ .cell := by decide) (hco : fscope.isCoroutine = false := by rfl) (hgen : fscope.isGenerator = false := by rfl) (hk : fscope.kind = .function := by rfl) :
    wpAny (model prog w) A (call (.ref f) args) Q E s := by
  obtain ⟨oL, hoL, hfL⟩ := S.obj
  refine r_call (news := (L, oL) :: news) (hb := h₀) ho hcd hbind hloc B S.keep (Nat.le_trans S.above (Nat.le_of_lt S.Llt)) (fun p hp => ?_) hroom (fun L' s₁ hlt S₁ => ?_) hcell hco hgen hk
  · rcases List.mem_cons.mp hp with rfl | hp
    · exact ⟨hoL, S.fresh S.above⟩
    · exact ⟨(S.nw p hp).1, (S.nw p hp).2.2⟩
  · rw [S.gens, S.os] at S₁
    exact h L' oL s₁ hfL (hlt _ (.head _)) (fun p hp => hlt p (.tail _ hp)) S₁
/-- a made def, called -/
theorem r_callF {f : Addr} {oF : Obj} {args : List Value} {binds : List (Str × Value)} {fname qual : Str} {params : Arguments} {body : List Stmt} {fscope : Scope} {cl : List (Str × Addr)} {dV kV doc pm cdv ct : Value} {an : Option Addr} {Q : Value → Shared → Prop}
    (S : St g os h₀ L l news s) (B : Base w h₀) (hm : (f, oF) ∈ news) (hoF : oF.data = .func (fnX fname qual params body fscope cl dV kV doc pm an cdv ct)) (hcd : s.heap.CodeRec cdv qual)
    (hbind : bindArgs (fnX fname qual params body fscope cl dV kV doc pm an cdv ct) ⟨args, []⟩ = pure binds) (hloc : (binds.all fun x => decide (fscope.names.lookup x.1 = some .local)) = true) (hroom : A.depth < recursionLimit)
    (h : ∀ L' oL s₁, FrObj oL l → L < L' → (∀ p ∈ news, p.1 < L') → St g os h₀ L' binds.reverse ((L, oL) :: news) s₁ → wpAny (model prog w) (A.deeper (envX qual fscope L' f cdv cl)) (execs body (envX qual fscope L' f cdv cl)) (RetQ Q) (fun _ _ => False) s₁)
    (hcell : ∀ x ∈ fscope.names, x.2 ≠ .cell := by decide) (hco : fscope.isCoroutine = false := by rfl) (hgen : fscope.isGenerator = false := by rfl) (hk : fscope.kind = .function := by rfl) :
    wpAny (model prog w) A (call (.ref f) args) Q E s := by
  obtain ⟨oL, hoL, hfL⟩ := S.obj
  refine wpAny_call (codeAny_call_def (fd := fnX fname qual params body fscope cl dV kV doc pm an cdv ct) (body := body) (binds := binds) hroom (S.nw _ hm).1 hoF (B.nolimit.keeps S.keep) hcd rfl (BindsTo.of_eq hbind) hcell (locs hloc) (fun h₁ hns hk₁ => ?_) hco hgen hk)
  refine wpAny_mono (h s.heap.objs.size oL _ hfL S.Llt (fun p hp => S.lt hp) ⟨⟨_, ⟨hns, fun b o e => hk₁ b o (S.keep b o e), Nat.le_trans S.above (Nat.le_of_lt S.Llt)⟩, fun x v e => e⟩, fun p hp => ?_, S.gens, S.os⟩) (fun fl s' hf => ?_) fun _ _ e => e.elim
  · rcases List.mem_cons.mp hp with rfl | hp
    · exact ⟨hk₁ _ _ hoL, Nat.ne_of_lt S.Llt, S.fresh S.above⟩
    · exact ⟨hk₁ _ _ (S.nw p hp).1, Nat.ne_of_lt (S.lt hp), (S.nw p hp).2.2⟩
  · cases fl <;> exact hf
section
variable {x dx C : Addr} {es : List DictEntry} {n : Nat} {nm : Str} {v : Value}
theorem r_getOwn {expr : Bool} {attr : Option Value} {Q : Value → Shared → Prop} (S : St g os h₀ L l news s) (B : Base w h₀) (h1 : (x, instObj C dx) ∈ news) (h2 : (dx, dictOf es n) ∈ news)
    (hg : plainGet (KK w) C nm = true) (hh : hasDictIn (KK w) C = true) (ha : findIn (KK w) (.ref C) nm = some attr) (hn : noGet (KK w) attr = true) (hl : getL nm es = some (some v)) (hv : handedIn v = true)
    (h : ∀ s', St g os h₀ L l news s' → Q v s') : wpAny (model prog w) A (getAttr (.ref x) nm expr) Q E s :=
  let ⟨_, F, _⟩ := S.fr; get_own F B.k (InstAt.of_news S.nw h1 h2) hg hh ha hn hl hv (h _ (S.toks _))
theorem r_setOwn {Q : Unit → Shared → Prop} {G : Tok → List (Addr × Obj)} (S : St g os h₀ L l news s) (B : Base w h₀) (h1 : (x, instObj C dx) ∈ news) (h2 : (dx, dictOf es n) ∈ news)
    (hs : findIn (KK w) (.ref C) "__setattr__" = some (some (.builtin "object.__setattr__"))) (hp : plainOver (KK w) C = true) (ht : takerIn (KK w) C nm = some none) (hh : hasDictIn (KK w) C = true) (hl : (getL nm es).isSome = true)
    (U : ∀ tk, Upd dx (dictOf es n) (dictOf (putL nm (PyData.keyHash w.params nm) (.str nm tk) v es) (putN nm es n)) news (G tk)) (hz : es.length ≤ 900)
    (h : ∀ tk s', St g os h₀ L l (G tk) s' → Q () s') : wpAny (model prog w) A (setAttr (.ref x) nm v) Q E s := by
  obtain ⟨m, F, H⟩ := S.fr
  have hlen : ∀ (es : List DictEntry) tk, (putL nm (PyData.keyHash w.params nm) (.str nm tk) v es).length ≤ es.length + 1 := by
    intro es tk
    induction es with
    | nil => simp [putL]
    | cons e r ih => unfold putL; split <;> simp only [List.length_cons] <;> (clear hs hp ht hh hl hz; omega)
  refine set_dict F B.k S.nw (InstAt.of_news S.nw h1 h2) rfl hs hp ht hh hl rfl (U _) (by have := hlen es (s.toks + 1); (clear hs hp ht hh hl; omega)) fun h' F' N' => h _ _ ⟨⟨_, F', H⟩, N', S.gens, S.os⟩
theorem r_method {pl : Sem Bool} {Q : Value × List Value → Shared → Prop} {f : Addr} (S : St g os h₀ L l news s) (B : Base w h₀) (h1 : (x, instObj C dx) ∈ news) (h2 : (dx, dictOf es n) ∈ news)
    (hg : plainGet (KK w) C nm = true) (hf : findIn (KK w) (.ref C) nm = some (some (.ref f))) (ht : isFn (KK w) (.ref f) = true) (hl : getL nm es = some none) (h : Q (.ref f, [.ref x]) s) : wpAny (model prog w) A (getMethod (.ref x) nm pl) Q E s :=
  let ⟨_, F, _⟩ := S.fr; method_inst F B.k (InstAt.of_news S.nw h1 h2) hg hf ht hl h
theorem r_bound {expr : Bool} {f : Addr} {Q : Value → Shared → Prop} (S : St g os h₀ L l news s) (B : Base w h₀) (h1 : (x, instObj C dx) ∈ news) (h2 : (dx, dictOf es n) ∈ news)
    (hg : plainGet (KK w) C nm = true) (hh : hasDictIn (KK w) C = true) (ha : findIn (KK w) (.ref C) nm = some (some (.ref f))) (hf : isFn (KK w) (.ref f) = true)
    (hgf : specialIn (KK w) (.ref f) "__get__" = some (some (.builtin "function.__get__"))) (ht : takesIn (KK w) (.ref f) = some false) (hc : copiedNames.contains nm = false) (hl : getL nm es = some none)
    (h : ∀ q s', (∀ p ∈ news, p.1 < q) → St g os h₀ L l ((q, methodObj (.ref f) (.ref x)) :: news) s' → Q (.ref q) s') : wpAny (model prog w) A (getAttr (.ref x) nm expr) Q E s :=
  let ⟨_, F, H⟩ := S.fr; kbm_bound F B.k S.nw (InstAt.of_news S.nw h1 h2) hg hh ha hf hgf ht hc hl fun q h' F' N' hq => h q _ hq ⟨⟨_, F', H⟩, N', S.gens, S.os⟩
end
end
theorem k80_get (w : World) (nm : Str) : plainGet (KK w) 80 nm = true := rfl
theorem k80_dict (w : World) : hasDictIn (KK w) 80 = true := rfl
theorem k80_sa (w : World) : findIn (KK w) (.ref 80) "__setattr__" = some (some (.builtin "object.__setattr__")) := rfl
theorem k80_over (w : World) : plainOver (KK w) 80 = true := rfl
theorem k80_f1 (w : World) : findIn (KK w) (.ref 80) "lineno" = some none := rfl
theorem k80_f2 (w : World) : findIn (KK w) (.ref 80) "instream" = some none := rfl
theorem k80_f3 (w : World) : findIn (KK w) (.ref 80) "whitespace" = some none := rfl
theorem k80_f4 (w : World) : findIn (KK w) (.ref 80) "pushback" = some none := rfl
theorem k80_t1 (w : World) : takerIn (KK w) 80 "lineno" = some none := rfl
theorem k80_t2 (w : World) : takerIn (KK w) 80 "instream" = some none := rfl
theorem k80_t3 (w : World) : takerIn (KK w) 80 "whitespace" = some none := rfl
theorem k80_t4 (w : World) : takerIn (KK w) 80 "pushback" = some none := rfl
theorem k80_m1 (w : World) : findIn (KK w) (.ref 80) "_read_char" = some (some (.ref 63)) := rfl
theorem k80_m2 (w : World) : findIn (KK w) (.ref 80) "get_token" = some (some (.ref 70)) := rfl
theorem k80_m3 (w : World) : findIn (KK w) (.ref 80) "push_token" = some (some (.ref 77)) := rfl
theorem k80_i (w : World) : findIn (KK w) (.ref 80) "__init__" = some (some (.ref 56)) := rfl
theorem k80_makes (w : World) : makesIn (KK w) 80 = true := rfl
theorem k63_fn (w : World) : isFn (KK w) (.ref 63) = true := rfl
theorem k70_fn (w : World) : isFn (KK w) (.ref 70) = true := rfl
theorem k77_fn (w : World) : isFn (KK w) (.ref 77) = true := rfl
theorem k56_fn (w : World) : isFn (KK w) (.ref 56) = true := rfl
theorem k63_get (w : World) : specialIn (KK w) (.ref 63) "__get__" = some (some (.builtin "function.__get__")) := rfl
theorem k63_takes (w : World) : takesIn (KK w) (.ref 63) = some false := rfl
end Mine
end
section
open PySem PySem.W PyProof.Rows PySem.Calls
open Builtin Builtin.ObjectAttr
set_option Elab.async false
set_option maxRecDepth 100000
set_option maxHeartbeats 1000000
set_option linter.unusedVariables false
namespace Mine
theorem fnc_ga : Slot "function" "__getattribute__" "object.__getattribute__" :=
  .of (owner := "object") (n := "__getattribute__") (by rw [typeLookup_type, builtinLookup_eq_fast]; kernel_rfl) (by decide +kernel) (by decide +kernel) (by decide +kernel)
    (by first | exact .inl (by decide +kernel) | exact .inr (by decide +kernel)) (by rw [isSubtype_type]; kernel_rfl)
theorem fnc_sa : Slot "function" "__setattr__" "object.__setattr__" :=
  .of (owner := "object") (n := "__setattr__") (by rw [typeLookup_type, builtinLookup_eq_fast]; kernel_rfl) (by decide +kernel) (by decide +kernel) (by decide +kernel)
    (by first | exact .inl (by decide +kernel) | exact .inr (by decide +kernel)) (by rw [isSubtype_type]; kernel_rfl)
theorem fnc_noga : typeLookup (.type "function") "__getattr__" = pure none := by rw [typeLookup_type, builtinLookup_eq_fast]; kernel_rfl
theorem fnc_noread : typeLookup (.type "function") "read" = pure none := by rw [typeLookup_type, builtinLookup_eq_fast]; kernel_rfl
theorem fnc_canon : (Manifest.canonical "object.__getattribute__" != "object.__getattribute__") = false := by decide +kernel
theorem oga_entry : entryFor table "object.__getattribute__" = some Builtin.«object.__getattribute__» := entryFor_of_tree (by kernel_rfl)
theorem oga_args (a b : Value) : argsOk "object.__getattribute__" ⟨[a, b], []⟩ := by unfold argsOk; kernel_rfl
theorem fnc_mro : mroOf (.type "function") = pure [.type "function", .type "object"] := by rw [mroOf_type]; kernel_rfl
theorem fnc_pass (self : Value) : refuseLoop self "__setattr__" [.type "function", .type "object"] = pure () := by
  have h : refuseLoop self "__setattr__" [.type "function", .type "object"] = refuseLoop self "__setattr__" [.type "object"] := by kernel_rfl
  rw [h]; exact PySem.F.store_object.passes self
theorem fnc_hasDict : typeHasDict (.type "function") = true := by decide +kernel
theorem fnc_fin : finalisedInACycleAlone "function" = false := by decide +kernel
section
variable {prog : Program} {w : World} {A : Around} {E : Value → Shared → Prop} {s : Shared} {g : Array GenState} {os : OsState} {h₀ : Heap} {L f dL : Addr} {l : List (Str × Value)} {news : List (Addr × Obj)} {oF oD : Obj} {fd : FuncData} {v : Value}
/-- a field set on a function -/
theorem r_fnGet {pl : Sem Bool} {Q : Value × List Value → Shared → Prop} (S : St g os h₀ L l news s) (hm : (f, oF) ∈ news) (hd : (dL, oD) ∈ news) (hc : oF.cls = .type "function") (hdi : oF.dict = some dL) (hda : oF.data = .func fd) (hD : FrObj oD [("read", v)]) (hv : handedIn v = true)
    (h : ∀ s', St g os h₀ L l news s' → Q (v, []) s') : wpAny (model prog w) A (getMethod (.ref f) "read" pl) Q E s := by
  have hT : ∀ t, Shared.TypeIs { s with toks := t } (.ref f) "function" := fun _ => ⟨_, (S.nw _ hm).1, hc⟩
  obtain ⟨es, ep, m, hdd, hk, hmm, H⟩ := hD
  have hns : s.heap.Ns dL m := ⟨_, es, ep, (S.nw _ hd).1, hdd, hk, hmm⟩
  have hread : m "read" = some v := H "read" v rfl
  unfold getMethod
  refine wpAny_bind (wpAny_specialOf (hT s.toks) fnc_ga.lookup ?_)
  dsimp only
  rw [if_neg (by rw [fnc_canon]; exact Bool.false_ne_true)]
  refine wpAny_bind (wpAny_specialOf (hT s.toks) fnc_noga ?_)
  rw [if_neg (by simp)]
  refine wpAny_bind (wpAny_specialOf (hT s.toks) fnc_noread ?_)
  dsimp only
  refine wpAny_bind ?_
  unfold getAttr getAttrBy
  refine wpAny_bind (wpAny_mkText (wpAny_holding ?_))
  refine wpAny_bind (wpAny_typeOf (hT _) ?_)
  rw [fnc_ga.lookup]
  refine wpAny_bind (wpAny_pure ?_)
  dsimp only
  rw [if_neg (by simp [onTheHeap])]
  unfold getAttrByItsOwn hookBefore
  rw [if_neg (by simp [onTheHeap])]
  refine wpAny_bind (wpAny_pure (wpAny_bind (wpAny_attempt (wpAny_holding ?_))))
  unfold callGetattribute
  rw [if_neg (by simp)]
  unfold boundAndCalled
  rw [fnc_ga.bind]
  refine wpAny_bind (wpAny_pure ?_)
  refine wpAny_call_entry fnc_ga (hT _) oga_entry ?_ (oga_args _ _)
  refine wpAny_bind (wpAny_pure (wpAny_bind (wpAny_pure (wpAny_bind (wpAny_typeOf (hT _) ?_)))))
  refine wpAny_bind ?_
  unfold find
  rw [fnc_noread]
  refine wpAny_bind (wpAny_pure (wpAny_bind (wpAny_pure (wpAny_bind (wpAny_pure ?_)))))
  refine wpAny_bind (wpAny_bind (wpAny_bind (wpAny_loadPart (S.nw _ hm).1 ?_)))
  rw [hda]
  dsimp only
  unfold instanceDict
  refine wpAny_bind (wpAny_loadPart (S.nw _ hm).1 ?_)
  rw [hc, hdi]
  refine wpAny_pure (wpAny_nsGet hns ?_)
  rw [hread]
  refine wpAny_bind (wpAny_rule (wpAny_pure (wpAny_pure ⟨_, rfl, ?_⟩)))
  show wpAny _ _ (handedOut v) _ _ _
  rw [handedOut_of hv]
  exact wpAny_pure (wpAny_pure (h _ (S.toks _)))
theorem r_fnSet {Q : Unit → Shared → Prop} (S : St g os h₀ L l ((f, oF) :: news) s) (hne : ∀ p ∈ news, p.1 ≠ f) (hc : oF.cls = .type "function") (hdi : oF.dict = none) (hda : oF.data = .func fd)
    (h : ∀ dL oD s', (∀ p ∈ news, p.1 < dL) → f < dL → FrObj oD [("read", v)] → St g os h₀ L l ((dL, oD) :: (f, { oF with dict := some dL }) :: news) s' → Q () s') : wpAny (model prog w) A (setAttr (.ref f) "read" v) Q E s := by
  have hof := (S.nw _ (.head _)).1
  have hT : ∀ t, Shared.TypeIs { s with toks := t } (.ref f) "function" := fun _ => ⟨_, hof, hc⟩
  have SF := PySem.F.store_object
  unfold setAttr
  refine wpAny_bind (wpAny_mkText (wpAny_bind (wpAny_callSpecial?_slot (hT _) fnc_sa (wpAny_call_entry fnc_sa (hT _) SF.entry ?_ (SF.args _ _ _)))))
  rw [osa_eq, refuse_eq]
  refine wpAny_bind (wpAny_bind (wpAny_typeOf (hT _) ?_))
  rw [fnc_mro]
  refine wpAny_bind (wpAny_pure ?_)
  rw [fnc_pass]
  refine wpAny_pure (wpAny_bind (wpAny_typeOf (hT _) ?_))
  rw [fnc_noread]
  refine wpAny_bind (wpAny_pure (wpAny_bind (wpAny_pure ?_)))
  dsimp only
  unfold storeInOwnDict ownStreamTells
  refine wpAny_bind ?_
  dsimp only
  rw [if_neg (by decide), if_neg (by decide)]
  refine wpAny_pure ?_
  rw [if_neg (by decide)]
  refine wpAny_bind ?_
  unfold ownDictForStores instanceDict
  refine wpAny_bind (wpAny_loadPart hof ?_)
  rw [hc, hdi, hda]
  dsimp only
  rw [if_neg (by rw [fnc_hasDict]; decide)]
  have hL := S.Llt
  have hfs : f < s.heap.objs.size := Heap.lt_size hof
  have hof' : (s.heap.push { cls := .type "dict", data := .dict #[] }).get? f = some oF := Heap.get?_push_of_some _ hof
  have hds : f ≠ s.heap.objs.size := Nat.ne_of_lt hfs
  refine wpAny_bind (wpAny_alloc (wpAny_bind (wpAny_update hof' ?_)))
  unfold dictMade
  dsimp only
  rw [if_neg (by rw [fnc_fin]; decide)]
  refine wpAny_pure ?_
  generalize hh₁ : (s.heap.push { cls := .type "dict", data := .dict #[] }).update f (fun o => { o with dict := some s.heap.objs.size }) = h₁
  have hf₁ : h₁.get? f = some { oF with dict := some s.heap.objs.size } := by
    rw [← hh₁]
    refine Heap.get?_update_self _ hof' ?_
    have hfr := (Heap.get?_some_iff.mp hof).2
    obtain ⟨oc, od, odt, osl⟩ := oF
    cases odt <;> first | rfl | exact hfr
  have hd₁ : h₁.get? s.heap.objs.size = some { cls := .type "dict", data := .dict #[] } := by
    rw [← hh₁]
    exact (Heap.get?_update_ne _ _ _ _ hds.symm).trans (Heap.get?_push_at rfl rfl)
  have hk₁ : ∀ b o, b ≠ f → s.heap.get? b = some o → h₁.get? b = some o := fun b o hb e => by
    rw [← hh₁]
    exact (Heap.get?_update_ne _ _ _ _ hb).trans (Heap.get?_push_of_some _ e)
  have hn₁ : h₁.Ns s.heap.objs.size (fun _ => none) := ⟨_, #[], _, hd₁, rfl, fun e he => absurd he (by simp), fun _ => rfl⟩
  unfold storeInDict newKeyGuard
  refine wpAny_bind (wpAny_pure (wpAny_bind (wpAny_nsSet1 (Heap.Ns1.of_empty hn₁) fun h' hn' hs => ?_)))
  obtain ⟨oD, esD, epD, hoD, hdD, hcD⟩ := hn'.count (Within.cons "read" v Within.nil)
  refine wpAny_bind (wpAny_lookBehind hoD (by rw [hdD]; exact pastItsLine_dict (Nat.le_trans hcD (by rw [List.length_cons, List.length_nil, sizeLine_eq]; omega))) ?_)
  refine wpAny_pure ⟨_, rfl, wpAny_pure ?_⟩
  obtain ⟨o', es, ep, e1, e2, e3, eu, e4⟩ := hn'
  have hk' : ∀ b o, b ≠ f → s.heap.get? b = some o → h'.get? b = some o := fun b o hb e => (hs.2 b (Nat.ne_of_lt (Heap.lt_size e))).trans (hk₁ b o hb e)
  refine h s.heap.objs.size o' _ (fun p hp => S.lt (.tail _ hp)) hfs ⟨es, ep, _, e2, e3, e4, fun x u hx => ?_⟩ ?_
  · rw [List.lookup_cons] at hx
    split at hx
    · rename_i q
      rw [eq_of_beq q]
      simpa using hx
    · cases hx
  · obtain ⟨oL, hoL, hfL⟩ := S.obj
    refine St.mk' (fun b o e => hk' b o (fun q => ?_) (S.keep b o e)) S.above (hk' L oL (Ne.symm (S.nw _ (.head _)).2.1) hoL) hfL (fun p hp => ?_) S.gens S.os
    · have := (S.nw _ (.head _)).2.2
      rw [q] at e
      rw [this] at e; cases e
    · rcases List.mem_cons.mp hp with rfl | hp
      · exact ⟨e1, Nat.ne_of_gt hL, S.fresh (Nat.le_trans S.above (Nat.le_of_lt hL))⟩
      · rcases List.mem_cons.mp hp with rfl | hp
        · exact ⟨(hs.2 f hds).trans hf₁, (S.nw _ (.head _)).2⟩
        · exact ⟨hk' _ _ (hne p hp) (S.nw p (.tail _ hp)).1, (S.nw p (.tail _ hp)).2⟩
end
end Mine
end
section
open PySem PySem.W PyProof.Rows PySem.Calls
set_option Elab.async false
set_option maxRecDepth 100000
set_option maxHeartbeats 1000000
set_option linter.unusedVariables false
namespace Mine
theorem ci_iter : Slot "callable_iterator" "__iter__" "callable_iterator.__iter__" :=
  .of (owner := "callable_iterator") (n := "__iter__") (by rw [typeLookup_type, builtinLookup_eq_fast]; kernel_rfl) (by decide +kernel) (by decide +kernel) (by decide +kernel)
    (by first | exact .inl (by decide +kernel) | exact .inr (by decide +kernel)) (by rw [isSubtype_type]; kernel_rfl)
theorem ci_next : Slot "callable_iterator" "__next__" "callable_iterator.__next__" :=
  .of (owner := "callable_iterator") (n := "__next__") (by rw [typeLookup_type, builtinLookup_eq_fast]; kernel_rfl) (by decide +kernel) (by decide +kernel) (by decide +kernel)
    (by first | exact .inl (by decide +kernel) | exact .inr (by decide +kernel)) (by rw [isSubtype_type]; kernel_rfl)
theorem ci_iter_entry : entryFor table "callable_iterator.__iter__" = some Builtin.«dict_keyiterator.__iter__» :=
  entryFor_alias (id' := "dict_keyiterator.__iter__") (by kernel_rfl) (by first | rfl | decide +kernel | (unfold String.splitOn; simp +decide [String.splitOnAux])) (by decide +kernel) (by kernel_rfl)
theorem ci_next_entry : entryFor table "callable_iterator.__next__" = some Builtin.«callable_iterator.__next__» := entryFor_of_tree (by kernel_rfl)
theorem ci_iter_args (a : Value) : argsOk "callable_iterator.__iter__" ⟨[a], []⟩ := by unfold argsOk; kernel_rfl
theorem ci_next_args (a : Value) : argsOk "callable_iterator.__next__" ⟨[a], []⟩ := by unfold argsOk; kernel_rfl
theorem mth_call : typeLookup (.type "method") "__call__" = pure (some (.builtin "method.__call__")) := by rw [typeLookup_type, builtinLookup_eq_fast]; kernel_rfl
theorem it_kind : builtinKind "iter" = none := by decide +kernel
theorem it_plain : plainId "iter" = true := by decide +kernel
theorem it_entry : entryFor table "iter" = some Builtin.«iter» := entryFor_of_tree (by kernel_rfl)
theorem it_args (a b : Value) : argsOk "iter" ⟨[a, b], []⟩ := by unfold argsOk; kernel_rfl
noncomputable abbrev ciObj (q : Addr) (t : Tok) : Obj := { cls := .type "callable_iterator", data := .fields #[.ref q, .str (T []) t, .bool false] }
noncomputable abbrev ciEnd : Obj := { cls := .type "callable_iterator", data := .fields #[.none, .none, .bool true] }
theorem wpAny_callBorrowed {M : Model} {A : Around} {E : Value → Shared → Prop} {s : Shared} {f : Value} {pos : List Value} {Q : Value → Shared → Prop}
    (hc : codeAny M A (.call f ⟨pos, []⟩) (fun r s' => match r with | .ok (.ret v) => Q v s' | .ok _ => False | .error e => E e s') s) : wpAny M A (callBorrowed f pos) Q E s := fun Γ p hΓ => by
  unfold callBorrowed
  rw [Sem.wp_call]
  have := hc _ p rfl (hΓ.enter (.call f ⟨pos, []⟩) none p (by intro x; cases x))
  refine wpCode_mono (fun r s' h => ?_) this
  rcases r with e | (v | _ | _ | _)
  · exact h
  · exact h.elim
  · exact h.elim
  · exact h.elim
  · exact h
section
variable {prog : Program} {w : World} {A : Around} {E : Value → Shared → Prop} {s : Shared} {g : Array GenState} {os : OsState} {h₀ : Heap} {L I q f x : Addr} {l : List (Str × Value)} {news : List (Addr × Obj)} {t : Tok}
theorem r_iter2 {Q : Value → Shared → Prop} (S : St g os h₀ L l news s) (hq : (q, methodObj (.ref f) (.ref x)) ∈ news)
    (h : ∀ I s', (∀ p ∈ news, p.1 < I) → St g os h₀ L l ((I, ciObj q t) :: news) s' → Q (.ref I) s') : wpAny (model prog w) A (call (.builtin "iter") [.ref q, .str (T []) t]) Q E s := by
  refine Calls.call_function_entry it_kind it_plain it_entry (it_args _ _) ?_
  have hT : Shared.TypeIs s (.ref q) "method" := ⟨_, (S.nw _ hq).1, rfl⟩
  unfold Builtin.«iter»
  refine wpAny_bind (wpAny_of_eq (a := [.ref q, .str (T []) t]) (by first | rfl | kernel_rfl) ?_)
  dsimp only
  refine wpAny_bind (wpAny_specialOf hT mth_call ?_)
  rw [if_neg (by simp)]
  refine wpAny_bind (wpAny_rule (wpAny_bind (wpAny_newObj_type (wpAny_pure ⟨_, rfl, ?_⟩) (by size_fits))))
  exact h _ _ (fun p hp => S.lt hp) (S.push _ _)
theorem r_iterCI {Q : Value → Shared → Prop} (S : St g os h₀ L l ((I, ciObj q t) :: news) s) (h : Q (.ref I) s) : wpAny (model prog w) A (pyIter (.ref I)) Q E s := by
  have hT : s.TypeIs (.ref I) "callable_iterator" := ⟨_, (S.nw _ (.head _)).1, rfl⟩
  refine wpAny_pyIter_slot hT ci_iter (wpAny_call_entry ci_iter hT ci_iter_entry ?_ (ci_iter_args _))
  show wpAny _ _ (ret (.ref I)) _ _ s
  exact wpAny_pure ⟨_, rfl, "callable_iterator", _, hT, ci_next.lookup, h⟩
/-- the iterator that has ended -/
theorem r_nextCE {Q : Option Value → Shared → Prop} (hh : A.handled = none) (S : St g os h₀ L l ((I, ciEnd) :: news) s) (h : ∀ s', St g os h₀ L l ((I, ciEnd) :: news) s' → Q none s') : wpAny (model prog w) A (pyNext (.ref I)) Q E s := by
  have ho := (S.nw _ (.head _)).1
  have hT : s.TypeIs (.ref I) "callable_iterator" := ⟨_, ho, rfl⟩
  unfold pyNext
  refine wpAny_bind (wpAny_attempt (wpAny_callSpecial?_slot (name := Str.ofString "__next__") hT ci_next (wpAny_call_entry ci_next hT ci_next_entry ?_ (ci_next_args _))))
  show wpAny _ _ (field (.ref I) 2 >>= _) _ _ s
  refine wpAny_bind (wpAny_field ho rfl (x := .bool true) rfl ?_)
  rw [if_pos (by rfl)]
  refine wpAny_bind (wpAny_rule (wpAny_bind ?_))
  show wpAny _ _ (newExc (.type "StopIteration") [] >>= _) _ _ _
  refine wpAny_bind ?_
  simp only [newExc, newTuple]
  refine wpAny_bind (wpAny_newObj_type ?_ (by size_fits))
  refine wpAny_bind (m := firstArgMember _ _) (wpAny_of_eq (a := Value.none) (by first | rfl | (simp only [firstArgMember]; rfl)) ?_)
  refine wpAny_newObj_type ?_ (by size_fits)
  simp only [raiseNew]
  refine wpAny_bind (wpAny_handled ?_)
  rw [show A.in1.handled = none from hh]
  refine wpAny_bind (wpAny_pure (wpAny_throw ?_))
  refine wpAny_bind (wpAny_isInstance (T := "StopIteration") (b := true) ⟨_, Heap.get?_push_size _ rfl, rfl⟩ isSubtype_stop ?_)
  exact wpAny_pure (h _ (S.grow (fun b o e => Heap.get?_push_of_some _ (Heap.get?_push_of_some _ e)) _))
/-- a turn: the method is called -/
theorem r_nextCI {oF : Obj} {fd : FuncData} {Q : Option Value → Shared → Prop} (hh : A.handled = none) (S : St g os h₀ L l news s) (hI : (I, ciObj q t) ∈ news) (hq : (q, methodObj (.ref f) (.ref x)) ∈ news) (hf : s.heap.get? f = some oF) (hfd : oF.data = .func fd)
    (hcall : codeAny (model prog w) A.in1 (.call (.ref f) ⟨[.ref x], []⟩) (fun r s' => ∃ (c : List Nat) (t' : Tok) (g' : Array GenState) (l' : List (Str × Value)) (news' : List (Addr × Obj)) (L' : Addr), r = .ok (.ret (.str (T c) t')) ∧ St g' os h₀ L' l' ((I, ciObj q t) :: news') s' ∧
      (∀ p ∈ news', p.1 ≠ I) ∧ (q, methodObj (.ref f) (.ref x)) ∈ news' ∧ s'.heap.get? f = some oF ∧
      (c ≠ [] → Q (some (.str (T c) t')) s') ∧ (c = [] → ∀ s'', St g' os h₀ L' l' ((I, ciEnd) :: news') s'' → Q none s'')) s) :
    wpAny (model prog w) A (pyNext (.ref I)) Q E s := by
  have ho := (S.nw _ hI).1
  have hqo := (S.nw _ hq).1
  have hT : s.TypeIs (.ref I) "callable_iterator" := ⟨_, ho, rfl⟩
  unfold pyNext
  refine wpAny_bind (wpAny_attempt (wpAny_callSpecial?_slot (name := Str.ofString "__next__") hT ci_next (wpAny_call_entry ci_next hT ci_next_entry ?_ (ci_next_args _))))
  show wpAny _ _ (field (.ref I) 2 >>= _) _ _ s
  refine wpAny_bind (wpAny_field ho rfl (x := .bool false) rfl ?_)
  rw [if_neg (by decide)]
  refine wpAny_bind (wpAny_field ho rfl (x := .ref q) rfl ?_)
  refine wpAny_bind (wpAny_attempt ?_)
  unfold callOutOfASlot
  refine wpAny_bind ?_
  have bor : ∀ {s' : Shared} {R : Bool → Shared → Prop} {E' : Value → Shared → Prop}, s'.heap.get? q = some (methodObj (.ref f) (.ref x)) → s'.heap.get? f = some oF → R true s' → wpAny (model prog w) A.in1 (borrowsExactly (.ref q)) R E' s' := by
    intro s' R E' h1 h2 h3
    unfold borrowsExactly
    refine wpAny_bind (wpAny_load h1 ?_)
    dsimp only
    rw [if_pos (by rfl)]
    refine wpAny_bind (m := load f) (wpAny_load h2 ?_)
    rw [hfd]
    exact wpAny_pure h3
  refine bor hqo hf ?_
  rw [if_pos rfl]
  refine wpAny_callBorrowed (method_call hqo (codeAny_mono hcall ?_))
  rintro r s₁ ⟨c, t', g', l', news', L', rfl, S₁, hne, hq₁, hf₁, hsome, hnone⟩
  have ho₁ := (S₁.nw _ (.head _)).1
  have hqo₁ := (S₁.nw _ (.tail _ hq₁)).1
  dsimp only
  refine wpAny_bind (wpAny_field ho₁ rfl (x := .bool false) rfl ?_)
  rw [if_neg (by decide)]
  refine wpAny_bind (wpAny_field ho₁ rfl (x := .str (T []) t) rfl ?_)
  refine wpAny_bind (wpAny_holding (PyProof.Rows.eqBool_str ?_))
  rw [T_beq]
  by_cases hc : c = []
  · subst hc
    rw [if_neg (by decide)]
    refine wpAny_bind (wpAny_rule ?_)
    refine wpAny_bind (wpAny_bind (wpAny_field ho₁ rfl (x := .ref q) rfl (wpAny_bind ?_)))
    unfold slotLetsGo
    dsimp only
    refine wpAny_bind (bor hqo₁ hf₁ ?_)
    rw [if_pos rfl]
    refine wpAny_pure ?_
    refine wpAny_bind (wpAny_setField_rec ho₁ (by simp) fun h₂ ho₂ hs₂ => ?_)
    refine wpAny_bind (wpAny_setField_rec ho₂ (by simp) fun h₃ ho₃ hs₃ => ?_)
    refine wpAny_setField_rec ho₃ (by simp) fun h₄ ho₄ hs₄ => ?_
    have S₄ := S₁.change (.head hne) ((hs₂.trans hs₃).trans hs₄) ho₄ s₁.toks
    show wpAny _ _ (newExc (.type "StopIteration") [] >>= _) _ _ _
    refine wpAny_bind ?_
    simp only [newExc, newTuple]
    refine wpAny_bind (wpAny_newObj_type ?_ (by size_fits))
    refine wpAny_bind (m := firstArgMember _ _) (wpAny_of_eq (a := Value.none) (by first | rfl | (simp only [firstArgMember]; rfl)) ?_)
    refine wpAny_newObj_type ?_ (by size_fits)
    simp only [raiseNew]
    refine wpAny_bind (wpAny_handled ?_)
    rw [show A.in1.handled = none from hh]
    refine wpAny_bind (wpAny_pure (wpAny_throw ?_))
    refine wpAny_bind (wpAny_isInstance (T := "StopIteration") (b := true) ⟨_, Heap.get?_push_size _ rfl, rfl⟩ isSubtype_stop ?_)
    exact wpAny_pure (hnone rfl _ (S₄.grow (fun b o e => Heap.get?_push_of_some _ (Heap.get?_push_of_some _ e)) _))
  · rw [if_pos (by simp; exact fun e => hc e)]
    refine wpAny_pure ⟨_, rfl, ?_⟩
    exact wpAny_pure (hsome hc)
end
end Mine
end
section
open PySem PySem.W PyProof.Rows PySem.Calls
set_option Elab.async false
set_option maxRecDepth 100000
set_option maxHeartbeats 1000000
set_option linter.unusedVariables false
set_option genInjectivity false
set_option genSizeOf false
set_option genSizeOfSpec false
namespace Mine
section
variable {prog : Program} {w : World} {A : Around} {E : Value → Shared → Prop} {s : Shared} {g : Array GenState} {os : OsState} {h₀ : Heap} {L D : Addr} {l : List (Str × Value)} {news news' : List (Addr × Obj)} {n : Nat}
theorem r_getItemL {its : Array Value} {k : Int} {t : Tok} {x : Value} {Q : Value → Shared → Prop} (S : St g os h₀ L l news s) (hm : (D, listOf its n) ∈ news) (h0 : 0 ≤ k) (hfit : k < 2 ^ 63) (hx : its[k.toNat]? = some x) (h : Q x s) :
    wpAny (model prog w) A (getItem (.ref D) (.int k t)) Q E s := wpAny_getItem_list (PySem.IsL.isList (n := n) (S.nw _ hm).1) h0 hfit hx h
theorem r_tList {its : Array Value} {Q : Bool → Shared → Prop} (S : St g os h₀ L l news s) (hm : (D, listOf its n) ∈ news) (hz : its.size ≤ 1000000) (h : ∀ s', St g os h₀ L l news s' → Q (!its.isEmpty) s') : wpAny (model prog w) A (truthy (.ref D)) Q E s :=
  wpAny_truthy_list (PySem.IsL.isList (n := n) (S.nw _ hm).1) (by omega) (h _ (S.toks _))
theorem r_getPop {its : Array Value} {pl : Sem Bool} {Q : Value × List Value → Shared → Prop} (S : St g os h₀ L l news s) (hm : (D, listOf its n) ∈ news) (h : Q (.builtin "list.pop", [.ref D]) s) :
    wpAny (model prog w) A (getMethod (.ref D) "pop" pl) Q E s := kl_method S.nw hm PySem.F.slot_list_pop PySem.F.type_list_pop h
theorem r_pop0 {y : Value} {q : List Value} {u : Tok} {Q : Value → Shared → Prop} (S : St g os h₀ L l news s) (U : Upd D (listOf (y :: q).toArray n) (listOf q.toArray (n + 1)) news news') (hz : q.length ≤ 100000)
    (h : ∀ s', St g os h₀ L l news' s' → Q y s') : wpAny (model prog w) A (call (.builtin "list.pop") [.ref D, .int 0 u]) Q E s := by
  obtain ⟨m, F, H⟩ := S.fr
  refine kl_popAt (p := []) (q := q) (k := 0) F S.nw (by decide) ?_ rfl U ?_ fun h' F' N' => h _ ⟨⟨_, F', H⟩, N', S.gens, S.os⟩
  · unfold seqIndex?
    simp
  · rw [sizeLine_eq]; simp only [List.length_cons]; omega
end
structure LexA where
  X : Nat
  dX : Nat
  PB : Nat
  fL : Nat
  dL : Nat
  fR : Nat
  cR : Nat
  cT : Nat
  cP : Nat
  pl : Nat
  oL : Obj
  oD : Obj
  oR : Obj
  oC : Obj
  oT : Obj
  oP : Obj
  q1 : Int
  q2 : Int
  q3 : Int
  q4 : Int
  k1 : Tok
  k2 : Tok
  k3 : Tok
  k4 : Tok
  kw : Tok
  n : Nat
structure LexS where
  p : Nat
  tp : Tok
  ep : Nat
  ln : Nat
  tl : Tok
  pb : List Value
  pe : Nat
noncomputable abbrev lexEs (a : LexA) (ln : Nat) (tl : Tok) : List DictEntry :=
  [⟨a.q1, .str "lineno" a.k1, .int (ln : Int) tl⟩, ⟨a.q2, .str "instream" a.k2, .ref a.fL⟩, ⟨a.q3, .str "whitespace" a.k3, .str (T [10, 9, 13, 32]) a.kw⟩, ⟨a.q4, .str "pushback" a.k4, .ref a.PB⟩]
noncomputable abbrev lexN (a : LexA) (σ : LexS) (rest : List (Addr × Obj)) : List (Addr × Obj) :=
  (a.pl, listOf [Value.int (σ.p : Int) σ.tp].toArray σ.ep) :: (a.dX, dictOf (lexEs a σ.ln σ.tl) a.n) :: (a.PB, listOf σ.pb.toArray σ.pe) :: (a.X, instObj 80 a.dX) :: (a.fL, a.oL) :: (a.dL, a.oD) :: (a.fR, a.oR) :: (a.cR, a.oC) :: (a.cT, a.oT) :: (a.cP, a.oP) :: rest
noncomputable def lex91 (w : World) : List Stmt := match (KK w).lookup 91 with
  | some ⟨_, _, .func fd, _⟩ => (match fd.body with
    | .stmts b => b
    | _ => [])
  | _ => []
structure LexOk (w : World) (a : LexA) (text : List Nat) : Prop where
  hR : ∃ nm ps bd sc pos qual doc pm ctv vs tq, (lex91 w)[1]? = some (.FunctionDef nm ps bd [] none [] sc none nm pos) ∧ a.oR.data = .func (fnX nm qual ps bd sc [("text", a.cT), ("place", a.cP)] .none .none doc pm none (.ref a.cR) ctv) ∧
    a.oC.data = .fields vs ∧ vs[1]? = some (.str qual tq)
  hL : a.oL.cls = .type "function"
  hL2 : a.oL.dict = some a.dL
  hL3 : ∃ fd, a.oL.data = .func fd
  hD : FrObj a.oD [("read", .ref a.fR)]
  hT : ∃ tt, a.oT.data = .cell (some (.str (T text) tt))
  hP : a.oP.data = .cell (some (.ref a.pl))
  ord : a.cT < a.cP ∧ a.cP < a.pl ∧ a.pl < a.cR ∧ a.cR < a.fR ∧ a.fR < a.fL ∧ a.fL < a.dL ∧ a.dL < a.dX ∧ a.dX < a.X ∧ a.X < a.PB
  len : text.length ≤ 1000
section
variable {w : World} {A : Around} {s : Shared} {g : Array GenState} {os : OsState} {h₀ : Heap} {L : Addr} {l : List (Str × Value)} {rest : List (Addr × Obj)} {a : LexA} {σ : LexS} {text : List Nat}
theorem read_spec {t1 : Tok} {Q : Value → Shared → Prop} (O : LexOk w a text) (S : St g os h₀ L l (lexN a σ rest) s) (B : Base w h₀) (hr : A.depth + 5 < recursionLimit) (hrest : ∀ p ∈ rest, p.1 ≠ a.pl)
    (h : ∀ t tp s', St g os h₀ L l (lexN a { σ with p := σ.p + 1, tp := tp } rest) s' → Q (.str (T ((text.take (σ.p + 1)).drop σ.p)) t) s') : wpAny (MM w) A (call (.ref a.fR) [.int 1 t1]) Q NoE s := by
  obtain ⟨nm, ps, bd, sc, pos, qual, doc, pm, ctv, vs, tq, e1, e2, e3, e4⟩ := O.hR
  have e0 : (lex91 w)[1]? = some (.FunctionDef _ _ _ _ _ _ _ _ _ _) := rfl
  rw [e0] at e1
  cases e1
  obtain ⟨tt, hT⟩ := O.hT
  have hP := O.hP
  have hmR : (a.fR, a.oR) ∈ lexN a σ rest := by (repeat (first | exact List.Mem.head _ | apply List.Mem.tail))
  have hmC : (a.cR, a.oC) ∈ lexN a σ rest := by (repeat (first | exact List.Mem.head _ | apply List.Mem.tail))
  obtain ⟨o1, o2, o3, o4, o5, o6, o7, o8, o9⟩ := O.ord
  refine r_callF (binds := [("size", .int 1 t1)]) S B hmR e2 ⟨_, _, vs, tq, rfl, (S.nw _ hmC).1, e3, e4⟩ rfl rfl (dlt0 hr) (fun L' oL s₁ hfL hLL hlt S₁ => ?_)
  have hLpl : L ≠ a.pl := fun e => (S.nw (a.pl, _) (.head _)).2.1 e.symm
  have S₁ := S₁.drop (news' := (a.pl, listOf [Value.int (σ.p : Int) σ.tp].toArray σ.ep) :: (a.cT, a.oT) :: (a.cP, a.oP) :: (L, oL) :: (a.dX, dictOf (lexEs a σ.ln σ.tl) a.n) :: (a.PB, listOf σ.pb.toArray σ.pe) :: (a.X, instObj 80 a.dX) :: (a.fL, a.oL) :: (a.dL, a.oD) :: (a.fR, a.oR) :: (a.cR, a.oC) :: rest) (by repeat (first | exact sub_nil | refine sub_cons (by repeat (first | exact List.Mem.head _ | apply List.Mem.tail)) ?_ | (intro p hp; repeat (first | exact hp | apply List.Mem.tail))))
  refine r_cons ?_
  refine wpAny_AugAssign_SubscriptAny ?_
  refine r_cellE (by assumption) (by rfl) (by first | assumption | (repeat (first | exact List.Mem.head _ | apply List.Mem.tail))) (by assumption) ?_
  refine r_int (by assumption) ?_; intro _ _ _
  refine r_getItemL (x := .int (σ.p : Int) σ.tp) (by assumption) (.head _) (by decide) (by decide) (by rfl) ?_
  refine r_int (by assumption) ?_; intro _ _ _; refine r_iadd (by assumption) ?_; intro _ _ _
  rename_i tz s4 S4
  have hpl : ∀ p ∈ ((a.cT, a.oT) :: (a.cP, a.oP) :: (L, oL) :: (a.dX, dictOf (lexEs a σ.ln σ.tl) a.n) :: (a.PB, listOf σ.pb.toArray σ.pe) :: (a.X, instObj 80 a.dX) :: (a.fL, a.oL) :: (a.dL, a.oD) :: (a.fR, a.oR) :: (a.cR, a.oC) :: rest : List (Addr × Obj)), p.1 ≠ a.pl := by
    intro p hp
    simp only [List.mem_cons] at hp
    rcases hp with rfl | rfl | rfl | rfl | rfl | rfl | rfl | rfl | rfl | rfl | hp
    · exact Nat.ne_of_lt (show a.cT < a.pl from Nat.lt_trans o1 o2)
    · exact Nat.ne_of_lt (show a.cP < a.pl from o2)
    · exact hLpl
    · exact Nat.ne_of_gt (show a.pl < a.dX from Nat.lt_trans o3 (Nat.lt_trans o4 (Nat.lt_trans o5 (Nat.lt_trans o6 o7))))
    · exact Nat.ne_of_gt (show a.pl < a.PB from Nat.lt_trans o3 (Nat.lt_trans o4 (Nat.lt_trans o5 (Nat.lt_trans o6 (Nat.lt_trans o7 (Nat.lt_trans o8 o9))))))
    · exact Nat.ne_of_gt (show a.pl < a.X from Nat.lt_trans o3 (Nat.lt_trans o4 (Nat.lt_trans o5 (Nat.lt_trans o6 (Nat.lt_trans o7 o8)))))
    · exact Nat.ne_of_gt (show a.pl < a.fL from Nat.lt_trans o3 (Nat.lt_trans o4 o5))
    · exact Nat.ne_of_gt (show a.pl < a.dL from Nat.lt_trans o3 (Nat.lt_trans o4 (Nat.lt_trans o5 o6)))
    · exact Nat.ne_of_gt (show a.pl < a.fR from Nat.lt_trans o3 o4)
    · exact Nat.ne_of_gt (show a.pl < a.cR from o3)
    · exact hrest p hp
  refine r_setItem (k := 0) (vs := [Value.int (σ.p : Int) σ.tp]) (ns := [(σ.p : Int)]) (by assumption) (.cons _ _ .nil) (.head hpl) (by decide) (by simp) (by decide) ?_
  intro s5 _ S5
  have hA : (T text).length ≤ 1000000 := by rw [T_len]; have := O.len; omega
  refine SeqQ.go ?_; refine r_cons ?_; refine wpAny_Return_some ?_; refine Subscript_ ?_
  refine r_cellE (by assumption) (by rfl) (by first | assumption | (repeat (first | exact List.Mem.head _ | apply List.Mem.tail))) (by assumption) ?_
  refine r_slice ?_; refine r_part1 ?_; refine wpAny_BinOp ?_; refine Subscript_ ?_
  refine r_cellE (by assumption) (by rfl) (by first | assumption | (repeat (first | exact List.Mem.head _ | apply List.Mem.tail))) (by assumption) ?_
  refine r_int (by assumption) ?_; intro _ _ _
  refine r_item (by assumption) (by (repeat (first | exact List.Mem.head _ | apply List.Mem.tail))) (by rfl) (by decide) (by decide) ?_
  refine r_int (by assumption) ?_; intro _ _ _; refine r_sub (by assumption) ?_; intro _ _ _; refine r_part1 ?_; refine Subscript_ ?_
  refine r_cellE (by assumption) (by rfl) (by first | assumption | (repeat (first | exact List.Mem.head _ | apply List.Mem.tail))) (by assumption) ?_
  refine r_int (by assumption) ?_; intro _ _ _
  refine r_item (by assumption) (by (repeat (first | exact List.Mem.head _ | apply List.Mem.tail))) (by rfl) (by decide) (by decide) ?_
  refine r_part0 ?_; refine r_sliceS_ss (by assumption) (by assumption) ?_; intro _ _ _; refine SeqQ.ret ?_; refine RetQ.ret ?_
  rename_i t9 s9 S9
  rw [show ((σ.p : Int) + 1 - 1) = ((σ.p : Nat) : Int) by omega, show ((σ.p : Int) + 1) = ((σ.p + 1 : Nat) : Int) from rfl, T_slice_lohi']
  refine h t9 tz s9 (St.back S9 (by (repeat (first | exact List.Mem.head _ | apply List.Mem.tail))) hfL S.above (fun p hp => ?_))
  · refine ⟨?_, ?_⟩
    · simp only [lexN, List.mem_cons] at hp ⊢
      rcases hp with hp | hp | hp | hp | hp | hp | hp | hp | hp | hp | hp
      · exact .inl hp
      · exact .inr (.inr (.inr (.inr (.inl hp))))
      · exact .inr (.inr (.inr (.inr (.inr (.inl hp)))))
      · exact .inr (.inr (.inr (.inr (.inr (.inr (.inl hp))))))
      · exact .inr (.inr (.inr (.inr (.inr (.inr (.inr (.inl hp)))))))
      · exact .inr (.inr (.inr (.inr (.inr (.inr (.inr (.inr (.inl hp))))))))
      · exact .inr (.inr (.inr (.inr (.inr (.inr (.inr (.inr (.inr (.inl hp)))))))))
      · exact .inr (.inr (.inr (.inr (.inr (.inr (.inr (.inr (.inr (.inr (.inl hp))))))))))
      · exact .inr (.inl hp)
      · exact .inr (.inr (.inl hp))
      · exact .inr (.inr (.inr (.inr (.inr (.inr (.inr (.inr (.inr (.inr (.inr hp))))))))))
    · have key : ∀ q ∈ lexN a σ rest, q.1 ≠ L := fun q hq => (S.nw q hq).2.1
      simp only [lexN, List.mem_cons] at hp
      rcases hp with rfl | hp
      · exact key (a.pl, listOf [Value.int (σ.p : Int) σ.tp].toArray σ.ep) (.head _)
      · exact key p (by simp only [lexN, List.mem_cons]; exact .inr hp)
theorem lexNe {σ' : LexS} (h : ∀ p ∈ lexN a σ rest, p.1 ≠ L) : ∀ p ∈ lexN a σ' rest, p.1 ≠ L := by
  intro p hp
  simp only [lexN, List.mem_cons] at hp
  rcases hp with rfl | rfl | rfl | hp
  · exact h (a.pl, listOf [Value.int (σ.p : Int) σ.tp].toArray σ.ep) (.head _)
  · exact h (a.dX, dictOf (lexEs a σ.ln σ.tl) a.n) (.tail _ (.head _))
  · exact h (a.PB, listOf σ.pb.toArray σ.pe) (.tail _ (.tail _ (.head _)))
  · exact h p (by simp only [lexN, List.mem_cons]; exact .inr (.inr (.inr hp)))
theorem St.leaveLex {L' : Addr} {l' : List (Str × Value)} {oL : Obj} {σ' : LexS} (S : St g os h₀ L' l' (lexN a σ' ((L, oL) :: rest)) s) (hf : FrObj oL l) (hab : h₀.objs.size ≤ L) (hne : ∀ p ∈ lexN a σ' rest, p.1 ≠ L) : St g os h₀ L l (lexN a σ' rest) s :=
  St.back S (by simp only [lexN, List.mem_cons, true_or, or_true]) hf hab (fun p hp => ⟨by
    simp only [lexN, List.mem_cons] at hp ⊢
    rcases hp with hp | hp | hp | hp | hp | hp | hp | hp | hp | hp | hp
    · exact .inl hp
    · exact .inr (.inl hp)
    · exact .inr (.inr (.inl hp))
    · exact .inr (.inr (.inr (.inl hp)))
    · exact .inr (.inr (.inr (.inr (.inl hp))))
    · exact .inr (.inr (.inr (.inr (.inr (.inl hp)))))
    · exact .inr (.inr (.inr (.inr (.inr (.inr (.inl hp))))))
    · exact .inr (.inr (.inr (.inr (.inr (.inr (.inr (.inl hp)))))))
    · exact .inr (.inr (.inr (.inr (.inr (.inr (.inr (.inr (.inl hp))))))))
    · exact .inr (.inr (.inr (.inr (.inr (.inr (.inr (.inr (.inr (.inl hp)))))))))
    · exact .inr (.inr (.inr (.inr (.inr (.inr (.inr (.inr (.inr (.inr (.inr hp)))))))))), hne p hp⟩)
theorem fnAt_of {news : List (Addr × Obj)} {f : Addr} {o : Obj} {fd : FuncData} (S : St g os h₀ L l news s) (hm : (f, o) ∈ news) (hd : o.data = .func fd) : FnAt f s.heap := by
  have e := (S.nw _ hm).1
  obtain ⟨c, d, dt, sl⟩ := o
  cases hd
  exact ⟨_, _, _, _, e⟩
/-- a def of the top, called as code -/
theorem c_callN {f : Addr} {args : List Value} {binds : List (Str × Value)} {news : List (Addr × Obj)} {fname qual : Str} {params : Arguments} {body : List Stmt} {fscope : Scope} {dV kV doc pm cdv ct oc : Value} {an od : Option Addr} {osl : Array (Option Value)} {R : Result → Shared → Prop}
    (ho : (KK w).lookup f = some ⟨oc, od, .func (fnOf fname qual params body fscope dV kV doc pm an cdv ct), osl⟩) (hcd : codeIn (KK w) cdv qual = true)
    (hbind : bindArgs (fnOf fname qual params body fscope dV kV doc pm an cdv ct) ⟨args, []⟩ = pure binds) (hloc : (binds.all fun x => decide (fscope.names.lookup x.1 = some .local)) = true)
    (S : St g os h₀ L l news s) (B : Base w h₀) (hroom : A.depth < recursionLimit)
    (h : ∀ L' oL s₁, FrObj oL l → L < L' → (∀ p ∈ news, p.1 < L') → St g os h₀ L' binds.reverse ((L, oL) :: news) s₁ → wpAny (MM w) (A.deeper (envOf qual fscope L' f cdv)) (execs body (envOf qual fscope L' f cdv)) (RetQ fun v s' => R (.ok (.ret v)) s') NoE s₁)
    (hcell : ∀ x ∈ fscope.names, x.2 ≠ .cell := by decide) (hco : fscope.isCoroutine = false := by rfl) (hgen : fscope.isGenerator = false := by rfl) (hk : fscope.kind = .function := by rfl) :
    codeAny (MM w) A (.call (.ref f) ⟨args, []⟩) R s := by
  obtain ⟨oL, hoL, hfL⟩ := S.obj
  have X := B.k.keeps S.keep
  refine codeAny_call_def (fd := fnOf fname qual params body fscope dV kV doc pm an cdv ct) (body := body) (binds := binds) hroom (X _ _ ho) rfl (B.nolimit.keeps S.keep) (codeRec_of X hcd) rfl (BindsTo.of_eq hbind) hcell (locs hloc) (fun h₁ hns hk₁ => ?_) hco hgen hk
  refine wpAny_mono (h s.heap.objs.size oL _ hfL S.Llt (fun p hp => S.lt hp) ⟨⟨_, ⟨hns, fun b o e => hk₁ b o (S.keep b o e), Nat.le_trans S.above (Nat.le_of_lt S.Llt)⟩, fun x v e => e⟩, fun p hp => ?_, S.gens, S.os⟩) (fun fl s' hf => ?_) fun _ _ e => e.elim
  · rcases List.mem_cons.mp hp with rfl | hp
    · exact ⟨hk₁ _ _ hoL, Nat.ne_of_lt S.Llt, S.fresh S.above⟩
    · exact ⟨hk₁ _ _ (S.nw p hp).1, Nat.ne_of_lt (S.lt hp), (S.nw p hp).2.2⟩
  · cases fl <;> exact hf
noncomputable def nl (c : List Nat) : Nat := if c = [10] then 1 else 0
noncomputable def rdc (text : List Nat) (p : Nat) : List Nat := (text.take (p + 1)).drop p
set_option maxHeartbeats 4000000 in
/-- _read_char -/
theorem rc_spec {R : Result → Shared → Prop} (O : LexOk w a text) (S : St g os h₀ L l (lexN a σ rest) s) (B : Base w h₀) (hr : A.depth + 10 < recursionLimit) (hrest : ∀ p ∈ rest, p.1 ≠ a.pl ∧ p.1 ≠ a.dX)
    (h : ∀ t tp tl s', St g os h₀ L l (lexN a { σ with p := σ.p + 1, tp := tp, ln := σ.ln + nl (rdc text σ.p), tl := tl } rest) s' → R (.ok (.ret (.str (T (rdc text σ.p)) t))) s') : codeAny (MM w) A (.call (.ref 63) ⟨[.ref a.X], []⟩) R s := by
  obtain ⟨o1, o2, o3, o4, o5, o6, o7, o8, o9⟩ := O.ord
  refine c_callN (binds := [("self", .ref a.X)]) rfl rfl rfl rfl S B (dlt0 hr) (fun L' oL s₁ hfL hLL hlt S₁ => ?_)
  have hLpl : L ≠ a.pl := fun e => (S.nw (a.pl, listOf [Value.int (σ.p : Int) σ.tp].toArray σ.ep) (.head _)).2.1 e.symm
  have hLdX : L ≠ a.dX := fun e => (S.nw (a.dX, dictOf (lexEs a σ.ln σ.tl) a.n) (.tail _ (.head _))).2.1 e.symm
  have S₁ : St g os h₀ L' [("self", .ref a.X)] (lexN a σ ((L, oL) :: rest)) s₁ := S₁.drop (by repeat (first | exact sub_nil | refine sub_cons (by repeat (first | exact List.Mem.head _ | apply List.Mem.tail)) ?_ | (intro p hp; repeat (first | exact hp | apply List.Mem.tail))))
  refine r_cons ?_; refine wpAny_Assign_Name ?_; refine MethodCall_ ?_
  refine Attribute_any_ ?_
  refine r_name (by assumption) (by rfl) ?_
  refine r_getOwn (C := 80) S₁ B (by (repeat (first | exact List.Mem.head _ | apply List.Mem.tail))) (by (repeat (first | exact List.Mem.head _ | apply List.Mem.tail))) (k80_get w _) (k80_dict w) (k80_f2 w) rfl rfl rfl ?_
  intro s2 S2
  obtain ⟨fdL, hfdL⟩ := O.hL3
  obtain ⟨nmR, psR, bdR, scR, posR, qualR, docR, pmR, ctvR, vsR, tqR, _, hfdR, _⟩ := O.hR
  refine r_fnGet S2 (f := a.fL) (oF := a.oL) (by (repeat (first | exact List.Mem.head _ | apply List.Mem.tail))) (dL := a.dL) (oD := a.oD) (by (repeat (first | exact List.Mem.head _ | apply List.Mem.tail))) O.hL O.hL2 hfdL O.hD rfl ?_
  intro s3 S3
  refine callWith_F (fnAt_of S3 (f := a.fR) (o := a.oR) (by (repeat (first | exact List.Mem.head _ | apply List.Mem.tail))) hfdR) ?_
  refine args_cons ?_; refine r_int (by assumption) ?_; intro _ _ _; refine args_nil ?_
  rename_i t4 s4 S4
  refine ⟨fnAt_of S4 (f := a.fR) (o := a.oR) (by (repeat (first | exact List.Mem.head _ | apply List.Mem.tail))) hfdR, ?_⟩
  change wpAny _ _ (call _ [_]) _ _ _
  refine read_spec O S4 B (by show A.depth + 6 < _; exact dlt hr) (fun p hp => ?_) ?_
  · rcases List.mem_cons.mp hp with rfl | hp
    · exact hLpl
    · exact (hrest p hp).1
  intro t5 tp5 s5 S5
  refine r_store (by assumption) ?_; intro _ _; refine SeqQ.go ?_; refine r_cons ?_; refine r_if ?_; refine wpAny_isTrue_Compare1 ?_
  refine r_name (by assumption) (by rfl) ?_; refine r_str (by assumption) ?_; intro _ _ _; refine PyProof.Rows.eq_str ?_
  refine wpAny_truthy_bool ?_
  rw [show (Str.ofString "\n" : Str) = T [10] by decide +kernel, T_beq]
  refine Br.split (fun e => ?_) (fun e => ?_)
  · have e' : rdc text σ.p = [10] := by simpa [rdc] using e
    refine r_cons ?_
    refine wpAny_AugAssign_AttributeAny ?_
    refine r_name (by assumption) (by rfl) ?_
    refine r_getOwn (C := 80) (by assumption) B (by (repeat (first | exact List.Mem.head _ | apply List.Mem.tail))) (by (repeat (first | exact List.Mem.head _ | apply List.Mem.tail))) (k80_get w _) (k80_dict w) (k80_f1 w) rfl rfl rfl ?_
    intro s6 S6
    refine r_int (by assumption) ?_; intro _ _ _; refine r_iadd (by assumption) ?_; intro _ _ _
    refine r_setOwn (C := 80) (by assumption) B (by (repeat (first | exact List.Mem.head _ | apply List.Mem.tail))) (by (repeat (first | exact List.Mem.head _ | apply List.Mem.tail))) (k80_sa w) (k80_over w) (k80_t1 w) (k80_dict w) rfl (fun tk => .tail (Nat.ne_of_lt (show a.pl < a.dX from Nat.lt_trans o3 (Nat.lt_trans o4 (Nat.lt_trans o5 (Nat.lt_trans o6 o7))))) (.head (fun p hp => ?_))) (by show 4 ≤ 900; decide) ?_
    · simp only [List.mem_cons] at hp
      rcases hp with rfl | rfl | rfl | rfl | rfl | rfl | rfl | rfl | rfl | hp
      · exact Nat.ne_of_gt (show a.dX < a.PB from Nat.lt_trans o8 o9)
      · exact Nat.ne_of_gt (show a.dX < a.X from o8)
      · exact Nat.ne_of_lt (show a.fL < a.dX from Nat.lt_trans o6 o7)
      · exact Nat.ne_of_lt (show a.dL < a.dX from o7)
      · exact Nat.ne_of_lt (show a.fR < a.dX from Nat.lt_trans o5 (Nat.lt_trans o6 o7))
      · exact Nat.ne_of_lt (show a.cR < a.dX from Nat.lt_trans o4 (Nat.lt_trans o5 (Nat.lt_trans o6 o7)))
      · exact Nat.ne_of_lt (show a.cT < a.dX from Nat.lt_trans o1 (Nat.lt_trans o2 (Nat.lt_trans o3 (Nat.lt_trans o4 (Nat.lt_trans o5 (Nat.lt_trans o6 o7))))))
      · exact Nat.ne_of_lt (show a.cP < a.dX from Nat.lt_trans o2 (Nat.lt_trans o3 (Nat.lt_trans o4 (Nat.lt_trans o5 (Nat.lt_trans o6 o7)))))
      · exact hLdX
      · exact (hrest p hp).2
    intro tk s7 S7
    rename_i tl9 _ _
    have S7 : St g os h₀ L' _ (lexN a { σ with p := σ.p + 1, tp := tp5, ln := σ.ln + 1, tl := tl9 } ((L, oL) :: rest)) s7 := S7
    refine SeqQ.go ?_; refine r_nil ?_; refine SeqQ.go ?_; refine r_cons ?_; refine wpAny_Return_some ?_
    refine r_name (by assumption) (by rfl) ?_; refine SeqQ.ret ?_; refine RetQ.ret ?_
    have := h t5 tp5 tl9 s7 (by rw [show σ.ln + nl (rdc text σ.p) = σ.ln + 1 by simp only [nl, if_pos e']]; exact S7.leaveLex hfL S.above (lexNe fun p hp => (S.nw p hp).2.1))
    exact this
  · have e' : ¬ rdc text σ.p = [10] := by simpa [rdc] using e
    refine r_nil ?_; refine SeqQ.go ?_; refine r_cons ?_; refine wpAny_Return_some ?_; refine r_name (by assumption) (by rfl) ?_
    refine SeqQ.ret ?_; refine RetQ.ret ?_
    rename_i S7
    exact h t5 tp5 σ.tl _ (by rw [show σ.ln + nl (rdc text σ.p) = σ.ln by simp only [nl, if_neg e', Nat.add_zero]]; exact S7.leaveLex hfL S.above (lexNe fun p hp => (S.nw p hp).2.1))
end
end Mine
end
section
open PySem PySem.W PyProof.Rows PySem.Calls
set_option Elab.async false
set_option maxRecDepth 100000
set_option maxHeartbeats 1000000
set_option linter.unusedVariables false
namespace Mine
noncomputable def ws (c : Nat) : Bool := [10, 9, 13, 32].contains c
/-- the quoted token's rest -/
noncomputable def qd : List Nat → List Nat → Nat → List Nat × List Nat × Nat
  | [], tok, ln => (tok, [], ln)
  | c :: r, tok, ln => if c = 34 then (tok, r, ln) else if c = 92 then (match r with
      | [] => (tok, [], ln)
      | d :: r' => qd r' (tok ++ [d]) (ln + nl [d])) else qd r (tok ++ [c]) (ln + nl [c])
/-- the bare token's rest -/
noncomputable def ud : List Nat → List Nat → Nat → List Nat × List Nat × Nat
  | [], tok, ln => (tok, [], ln)
  | c :: r, tok, ln => if ws c then (tok, r, ln + nl [c]) else if c = 92 then (match r with
      | [] => (tok, [], ln)
      | d :: r' => ud r' (tok ++ [d]) (ln + nl [d])) else ud r (tok ++ [c]) ln
/-- get_token, nothing pushed back -/
noncomputable def gt : List Nat → Nat → List Nat × List Nat × Nat
  | [], ln => ([], [], ln)
  | c :: r, ln => if ws c then gt r (ln + nl [c]) else if c = 34 then qd r [] ln else if c = 92 then (match r with
      | [] => ([], [], ln)
      | d :: r' => ud r' [d] (ln + nl [d])) else ud r [c] ln
theorem rdc_eq (text : List Nat) (p : Nat) : rdc text p = (text.drop p).take 1 := by
  unfold rdc
  rw [List.drop_take]; congr 1; omega
structure LexStep (text : List Nat) (σ : LexS) (c : List Nat) (σ' : LexS) : Prop where
  hc : c = (text.drop σ.p).take 1
  hp : text.drop σ'.p = (text.drop σ.p).drop 1
  hln : σ'.ln = σ.ln + nl c
  hpb : σ'.pb = σ.pb
  hpe : σ'.pe = σ.pe
section
variable {w : World} {A : Around} {s : Shared} {g : Array GenState} {os : OsState} {h₀ : Heap} {L I q : Addr} {l : List (Str × Value)} {rest R : List (Addr × Obj)} {a : LexA} {σ : LexS} {text : List Nat} {o : Obj}
theorem St.in1 (S : St g os h₀ L l ((I, o) :: lexN a σ R) s) : St g os h₀ L l (lexN a σ ((I, o) :: R)) s := S.drop (fun p hp => by
  simp only [lexN, List.mem_cons] at hp ⊢
  rcases hp with hp | hp | hp | hp | hp | hp | hp | hp | hp | hp | hp | hp
  · exact .inr (.inl hp)
  · exact .inr (.inr (.inl hp))
  · exact .inr (.inr (.inr (.inl hp)))
  · exact .inr (.inr (.inr (.inr (.inl hp))))
  · exact .inr (.inr (.inr (.inr (.inr (.inl hp)))))
  · exact .inr (.inr (.inr (.inr (.inr (.inr (.inl hp))))))
  · exact .inr (.inr (.inr (.inr (.inr (.inr (.inr (.inl hp)))))))
  · exact .inr (.inr (.inr (.inr (.inr (.inr (.inr (.inr (.inl hp))))))))
  · exact .inr (.inr (.inr (.inr (.inr (.inr (.inr (.inr (.inr (.inl hp)))))))))
  · exact .inr (.inr (.inr (.inr (.inr (.inr (.inr (.inr (.inr (.inr (.inl hp))))))))))
  · exact .inl hp
  · exact .inr (.inr (.inr (.inr (.inr (.inr (.inr (.inr (.inr (.inr (.inr hp)))))))))))
theorem St.out1 (S : St g os h₀ L l (lexN a σ ((I, o) :: R)) s) : St g os h₀ L l ((I, o) :: lexN a σ R) s := S.drop (fun p hp => by
  simp only [lexN, List.mem_cons] at hp ⊢
  rcases hp with hp | hp | hp | hp | hp | hp | hp | hp | hp | hp | hp | hp
  · exact .inr (.inr (.inr (.inr (.inr (.inr (.inr (.inr (.inr (.inr (.inl hp))))))))))
  · exact .inl hp
  · exact .inr (.inl hp)
  · exact .inr (.inr (.inl hp))
  · exact .inr (.inr (.inr (.inl hp)))
  · exact .inr (.inr (.inr (.inr (.inl hp))))
  · exact .inr (.inr (.inr (.inr (.inr (.inl hp)))))
  · exact .inr (.inr (.inr (.inr (.inr (.inr (.inl hp))))))
  · exact .inr (.inr (.inr (.inr (.inr (.inr (.inr (.inl hp)))))))
  · exact .inr (.inr (.inr (.inr (.inr (.inr (.inr (.inr (.inl hp))))))))
  · exact .inr (.inr (.inr (.inr (.inr (.inr (.inr (.inr (.inr (.inl hp)))))))))
  · exact .inr (.inr (.inr (.inr (.inr (.inr (.inr (.inr (.inr (.inr (.inr hp)))))))))))
theorem step_of (tp tl : Tok) : LexStep text σ (rdc text σ.p) { σ with p := σ.p + 1, tp := tp, ln := σ.ln + nl (rdc text σ.p), tl := tl } :=
  ⟨rdc_eq _ _, by rw [List.drop_drop], rfl, rfl, rfl⟩
/-- a read by the method -/
theorem readLex {Q : Value → Shared → Prop} (O : LexOk w a text) (S : St g os h₀ L l ((I, o) :: lexN a σ R) s) (B : Base w h₀) (hr : A.depth + 10 < recursionLimit) (hR : ∀ p ∈ R, p.1 ≠ a.pl ∧ p.1 ≠ a.dX) (hI : I ≠ a.pl ∧ I ≠ a.dX)
    (h : ∀ c t σ' s', LexStep text σ c σ' → St g os h₀ L l ((I, o) :: lexN a σ' R) s' → Q (.str (T c) t) s') : wpAny (MM w) A (call (.ref 63) [.ref a.X]) Q NoE s := by
  refine wpAny_call (rc_spec O S.in1 B hr (fun p hp => ?_) ?_)
  · rcases List.mem_cons.mp hp with rfl | hp
    · exact hI
    · exact hR p hp
  · intro t tp tl s' S'
    exact h _ t _ s' (step_of tp tl) S'.out1
theorem nextLex {tI : Tok} {Q : Option Value → Shared → Prop} (O : LexOk w a text) (hh : A.handled = none) (S : St g os h₀ L l ((I, ciObj q tI) :: lexN a σ R) s) (B : Base w h₀) (hr : A.depth + 10 < recursionLimit) (hR : ∀ p ∈ R, p.1 ≠ a.pl ∧ p.1 ≠ a.dX ∧ p.1 ≠ I) (hI : a.PB < I)
    (hq : (q, methodObj (.ref 63) (.ref a.X)) ∈ R)
    (h1 : ∀ c r, text.drop σ.p = c :: r → ∀ t σ' s', LexStep text σ [c] σ' → St g os h₀ L l ((I, ciObj q tI) :: lexN a σ' R) s' → Q (some (.str (T [c]) t)) s')
    (h2 : text.drop σ.p = [] → ∀ σ' s', LexStep text σ [] σ' → St g os h₀ L l ((I, ciEnd) :: lexN a σ' R) s' → Q none s') : wpAny (MM w) A (pyNext (.ref I)) Q NoE s := by
  obtain ⟨o1, o2, o3, o4, o5, o6, o7, o8, o9⟩ := O.ord
  have hIpl : I ≠ a.pl := Nat.ne_of_gt (show a.pl < I from Nat.lt_trans o3 (Nat.lt_trans o4 (Nat.lt_trans o5 (Nat.lt_trans o6 (Nat.lt_trans o7 (Nat.lt_trans o8 (Nat.lt_trans o9 hI)))))))
  have hIdX : I ≠ a.dX := Nat.ne_of_gt (show a.dX < I from Nat.lt_trans o8 (Nat.lt_trans o9 hI))
  have hk : (KK w).lookup 63 = some ⟨_, _, .func (fnOf _ _ _ _ _ _ _ _ _ _ _ _), _⟩ := rfl
  have hmem : ∀ σ', (q, methodObj (.ref 63) (.ref a.X)) ∈ lexN a σ' R := fun σ' => by
    simp only [lexN, List.mem_cons]
    exact .inr (.inr (.inr (.inr (.inr (.inr (.inr (.inr (.inr (.inr hq)))))))))
  refine r_nextCI hh S (.head _) (.tail _ (hmem σ)) (B.k.keeps S.keep _ _ hk) rfl (rc_spec (A := A.in1) O S.in1 B hr (fun p hp => ?_) ?_)
  · rcases List.mem_cons.mp hp with rfl | hp
    · exact ⟨hIpl, hIdX⟩
    · exact ⟨(hR p hp).1, (hR p hp).2.1⟩
  · intro t tp tl s' S'
    have S'' := S'.out1
    refine ⟨_, t, g, l, _, L, rfl, S'', fun p hp => ?_, hmem _, B.k.keeps S''.keep _ _ hk, fun hc => ?_, fun hc s'' S3 => ?_⟩
    · simp only [lexN, List.mem_cons] at hp
      have hI' : a.PB < I := hI
      rcases hp with rfl | rfl | rfl | rfl | rfl | rfl | rfl | rfl | rfl | rfl | hp
      · exact Nat.ne_of_lt (show a.pl < I from Nat.lt_trans o3 (Nat.lt_trans o4 (Nat.lt_trans o5 (Nat.lt_trans o6 (Nat.lt_trans o7 (Nat.lt_trans o8 (Nat.lt_trans o9 hI')))))))
      · exact Nat.ne_of_lt (show a.dX < I from Nat.lt_trans o8 (Nat.lt_trans o9 hI'))
      · exact Nat.ne_of_lt (show a.PB < I from hI')
      · exact Nat.ne_of_lt (show a.X < I from Nat.lt_trans o9 hI')
      · exact Nat.ne_of_lt (show a.fL < I from Nat.lt_trans o6 (Nat.lt_trans o7 (Nat.lt_trans o8 (Nat.lt_trans o9 hI'))))
      · exact Nat.ne_of_lt (show a.dL < I from Nat.lt_trans o7 (Nat.lt_trans o8 (Nat.lt_trans o9 hI')))
      · exact Nat.ne_of_lt (show a.fR < I from Nat.lt_trans o5 (Nat.lt_trans o6 (Nat.lt_trans o7 (Nat.lt_trans o8 (Nat.lt_trans o9 hI')))))
      · exact Nat.ne_of_lt (show a.cR < I from Nat.lt_trans o4 (Nat.lt_trans o5 (Nat.lt_trans o6 (Nat.lt_trans o7 (Nat.lt_trans o8 (Nat.lt_trans o9 hI'))))))
      · exact Nat.ne_of_lt (show a.cT < I from Nat.lt_trans o1 (Nat.lt_trans o2 (Nat.lt_trans o3 (Nat.lt_trans o4 (Nat.lt_trans o5 (Nat.lt_trans o6 (Nat.lt_trans o7 (Nat.lt_trans o8 (Nat.lt_trans o9 hI')))))))))
      · exact Nat.ne_of_lt (show a.cP < I from Nat.lt_trans o2 (Nat.lt_trans o3 (Nat.lt_trans o4 (Nat.lt_trans o5 (Nat.lt_trans o6 (Nat.lt_trans o7 (Nat.lt_trans o8 (Nat.lt_trans o9 hI'))))))))
      · exact (hR p hp).2.2
    · have st : LexStep text σ _ _ := step_of tp tl
      cases hd : text.drop σ.p with
      | nil => exact absurd (by rw [rdc_eq, hd]; rfl) hc
      | cons x r =>
        have e : rdc text σ.p = [x] := by rw [rdc_eq, hd]; rfl
        have := h1 x r hd t _ s' (e ▸ st) S''
        rw [e]; exact this
    · have st : LexStep text σ _ _ := step_of tp tl
      rw [hc] at st
      have hd : text.drop σ.p = [] := by
        have := rdc_eq text σ.p
        rw [hc] at this
        cases hd : text.drop σ.p with
        | nil => rfl
        | cons x r => rw [hd] at this; cases this
      rw [hc] at S3
      exact h2 hd _ s'' st S3
end
end Mine
end
section
open PySem PySem.W PyProof.Rows PySem.Calls
set_option Elab.async false
set_option maxRecDepth 100000
set_option maxHeartbeats 1000000
set_option linter.unusedVariables false
namespace Mine
theorem qd_cons (c : Nat) (r tok : List Nat) (ln : Nat) : qd (c :: r) tok ln = if c = 34 then (tok, r, ln) else if c = 92 then (match r with
      | [] => (tok, [], ln)
      | d :: r' => qd r' (tok ++ [d]) (ln + nl [d])) else qd r (tok ++ [c]) (ln + nl [c]) := by cases r <;> rfl
theorem ud_cons (c : Nat) (r tok : List Nat) (ln : Nat) : ud (c :: r) tok ln = if ws c then (tok, r, ln + nl [c]) else if c = 92 then (match r with
      | [] => (tok, [], ln)
      | d :: r' => ud r' (tok ++ [d]) (ln + nl [d])) else ud r (tok ++ [c]) ln := by cases r <;> rfl
theorem gt_cons (c : Nat) (r : List Nat) (ln : Nat) : gt (c :: r) ln = if ws c then gt r (ln + nl [c]) else if c = 34 then qd r [] ln else if c = 92 then (match r with
      | [] => ([], [], ln)
      | d :: r' => ud r' [d] (ln + nl [d])) else ud r [c] ln := by cases r <;> rfl
section
variable {w : World} {A : Around} {s : Shared} {g : Array GenState} {os : OsState} {h₀ : Heap} {L I q : Addr} {l : List (Str × Value)} {rest R : List (Addr × Obj)} {a : LexA} {σ : LexS} {text : List Nat} {o : Obj}
theorem r_iadds {news : List (Addr × Obj)} {x y : List Nat} {t u : Tok} {E : Value → Shared → Prop} {Q : Value → Shared → Prop} (S : St g os h₀ L l news s) (hz : x.length + y.length ≤ 100000) (h : ∀ t s', St g os h₀ L l news s' → Q (.str (T (x ++ y)) t) s') :
    wpAny (MM w) A (inplaceOp .Add (.str (T x) t) (.str (T y) u)) Q E s :=
  PyProof.Rows.iadd_str (fun t' k => by rw [T_append]; exact h _ _ (S.toks _)) (by rw [T_len, T_len, sizeLine_eq]; omega)
set_option maxHeartbeats 4000000 in
theorem tok_pop {y : Value} {qs : List Value} {Q : Value → Shared → Prop} (O : LexOk w a text) (hpb : σ.pb = y :: qs) (hqs : qs.length ≤ 1000) (S : St g os h₀ L l (lexN a σ rest) s) (B : Base w h₀) (hr : A.depth + 20 < recursionLimit) (hrest : ∀ p ∈ rest, p.1 ≠ a.PB)
    (h : ∀ s', St g os h₀ L l (lexN a { σ with pb := qs, pe := σ.pe + 1 } rest) s' → Q y s') : wpAny (MM w) A (call (.ref 70) [.ref a.X]) Q NoE s := by
  obtain ⟨o1, o2, o3, o4, o5, o6, o7, o8, o9⟩ := O.ord
  obtain ⟨p, tp, ep, ln, tl, pb, pe⟩ := σ
  dsimp only at hpb
  subst hpb
  refine r_callN (binds := [("self", .ref a.X)]) rfl rfl rfl rfl S B (dlt0 hr) (fun L' oL s₁ hfL hLL hlt S₁ => ?_)
  have hLPB : L ≠ a.PB := fun e => (S.nw (a.PB, listOf (y :: qs).toArray pe) (.tail _ (.tail _ (.head _)))).2.1 e.symm
  have S₁ : St g os h₀ L' [("self", .ref a.X)] (lexN a ⟨p, tp, ep, ln, tl, y :: qs, pe⟩ ((L, oL) :: rest)) s₁ := S₁.in1
  refine r_cons ?_; refine r_if ?_; refine isTrue_plain ?_
  refine Attribute_any_ ?_
  refine r_name (by assumption) (by rfl) ?_
  refine r_getOwn (C := 80) S₁ B (by (repeat (first | exact List.Mem.head _ | apply List.Mem.tail))) (by (repeat (first | exact List.Mem.head _ | apply List.Mem.tail))) (k80_get w _) (k80_dict w) (k80_f4 w) rfl rfl rfl ?_
  intro s2 S2
  refine r_tList (its := (y :: qs).toArray) S2 (by (repeat (first | exact List.Mem.head _ | apply List.Mem.tail))) (by simp only [List.size_toArray, List.length_cons]; (clear hr o1 o2 o3 o4 o5 o6 o7 o8 o9 hLL hLPB; omega)) ?_
  intro s3 S3
  refine Br.pos (by simp) ?_
  refine r_cons ?_; refine wpAny_Return_some ?_; refine MethodCall_ ?_
  refine Attribute_any_ ?_
  refine r_name (by assumption) (by rfl) ?_
  refine r_getOwn (C := 80) S3 B (by (repeat (first | exact List.Mem.head _ | apply List.Mem.tail))) (by (repeat (first | exact List.Mem.head _ | apply List.Mem.tail))) (k80_get w _) (k80_dict w) (k80_f4 w) rfl rfl rfl ?_
  intro s4 S4
  refine r_getPop (its := (y :: qs).toArray) S4 (by (repeat (first | exact List.Mem.head _ | apply List.Mem.tail))) ?_
  refine PyProof.Rows.callWith_method1 ?_; refine args_cons ?_; refine r_int (by assumption) ?_; intro _ _ _; refine args_nil ?_
  change wpAny _ _ (call _ [_, _]) _ _ _
  rename_i t5 s5 S5
  refine r_pop0 S5 (.tail (Nat.ne_of_lt (show a.pl < a.PB from Nat.lt_trans o3 (Nat.lt_trans o4 (Nat.lt_trans o5 (Nat.lt_trans o6 (Nat.lt_trans o7 (Nat.lt_trans o8 o9))))))) (.tail (Nat.ne_of_lt (show a.dX < a.PB from Nat.lt_trans o8 o9)) (.head (fun p hp => ?_)))) (by (clear hr o1 o2 o3 o4 o5 o6 o7 o8 o9 hLL hLPB; omega)) ?_
  · simp only [List.mem_cons] at hp
    rcases hp with rfl | rfl | rfl | rfl | rfl | rfl | rfl | rfl | hp
    · exact Nat.ne_of_lt (show a.X < a.PB from o9)
    · exact Nat.ne_of_lt (show a.fL < a.PB from Nat.lt_trans o6 (Nat.lt_trans o7 (Nat.lt_trans o8 o9)))
    · exact Nat.ne_of_lt (show a.dL < a.PB from Nat.lt_trans o7 (Nat.lt_trans o8 o9))
    · exact Nat.ne_of_lt (show a.fR < a.PB from Nat.lt_trans o5 (Nat.lt_trans o6 (Nat.lt_trans o7 (Nat.lt_trans o8 o9))))
    · exact Nat.ne_of_lt (show a.cR < a.PB from Nat.lt_trans o4 (Nat.lt_trans o5 (Nat.lt_trans o6 (Nat.lt_trans o7 (Nat.lt_trans o8 o9)))))
    · exact Nat.ne_of_lt (show a.cT < a.PB from Nat.lt_trans o1 (Nat.lt_trans o2 (Nat.lt_trans o3 (Nat.lt_trans o4 (Nat.lt_trans o5 (Nat.lt_trans o6 (Nat.lt_trans o7 (Nat.lt_trans o8 o9))))))))
    · exact Nat.ne_of_lt (show a.cP < a.PB from Nat.lt_trans o2 (Nat.lt_trans o3 (Nat.lt_trans o4 (Nat.lt_trans o5 (Nat.lt_trans o6 (Nat.lt_trans o7 (Nat.lt_trans o8 o9)))))))
    · exact hLPB
    · exact hrest p hp
  intro s6 S6
  have S6 : St g os h₀ L' _ (lexN a ⟨p, tp, ep, ln, tl, qs, pe + 1⟩ ((L, oL) :: rest)) s6 := S6
  refine SeqQ.ret ?_; refine SeqQ.ret ?_; refine RetQ.ret ?_
  exact h _ (S6.leaveLex hfL S.above (lexNe fun p hp => (S.nw p hp).2.1))
set_option maxHeartbeats 4000000 in
theorem push_spec {y : Value} {Q : Value → Shared → Prop} (O : LexOk w a text) (hpb : σ.pb.length ≤ 1000) (S : St g os h₀ L l (lexN a σ rest) s) (B : Base w h₀) (hr : A.depth + 20 < recursionLimit) (hrest : ∀ p ∈ rest, p.1 ≠ a.PB)
    (h : ∀ s', St g os h₀ L l (lexN a { σ with pb := σ.pb ++ [y], pe := σ.pe + 1 } rest) s' → Q .none s') : wpAny (MM w) A (call (.ref 77) [.ref a.X, y]) Q NoE s := by
  obtain ⟨o1, o2, o3, o4, o5, o6, o7, o8, o9⟩ := O.ord
  obtain ⟨p, tp, ep, ln, tl, pb, pe⟩ := σ
  dsimp only at hpb
  refine r_callN (binds := [("self", .ref a.X), ("token", y)]) rfl rfl rfl rfl S B (dlt0 hr) (fun L' oL s₁ hfL hLL hlt S₁ => ?_)
  have hLPB : L ≠ a.PB := fun e => (S.nw (a.PB, listOf pb.toArray pe) (.tail _ (.tail _ (.head _)))).2.1 e.symm
  have S₁ : St g os h₀ L' [("token", y), ("self", .ref a.X)] (lexN a ⟨p, tp, ep, ln, tl, pb, pe⟩ ((L, oL) :: rest)) s₁ := S₁.in1
  refine r_cons ?_; refine wpAny_Expr ?_; refine MethodCall_ ?_
  refine Attribute_any_ ?_
  refine r_name (by assumption) (by rfl) ?_
  refine r_getOwn (C := 80) S₁ B (by (repeat (first | exact List.Mem.head _ | apply List.Mem.tail))) (by (repeat (first | exact List.Mem.head _ | apply List.Mem.tail))) (k80_get w _) (k80_dict w) (k80_f4 w) rfl rfl rfl ?_
  intro s2 S2
  refine r_getAppend (by assumption) (by first | assumption | (repeat (first | exact List.Mem.head _ | apply List.Mem.tail))) ?_
  refine PyProof.Rows.callWith_method1 ?_; refine args_cons ?_; refine r_name (by assumption) (by rfl) ?_; refine args_nil ?_
  change wpAny _ _ (call _ [_, _]) _ _ _
  refine r_append (its := pb.toArray) S2 (.tail (Nat.ne_of_lt (show a.pl < a.PB from Nat.lt_trans o3 (Nat.lt_trans o4 (Nat.lt_trans o5 (Nat.lt_trans o6 (Nat.lt_trans o7 (Nat.lt_trans o8 o9))))))) (.tail (Nat.ne_of_lt (show a.dX < a.PB from Nat.lt_trans o8 o9)) (.head (fun p hp => ?_)))) (by rw [List.size_toArray]; (clear hr o1 o2 o3 o4 o5 o6 o7 o8 o9 hLL hLPB; omega)) ?_
  · simp only [List.mem_cons] at hp
    rcases hp with rfl | rfl | rfl | rfl | rfl | rfl | rfl | rfl | hp
    · exact Nat.ne_of_lt (show a.X < a.PB from o9)
    · exact Nat.ne_of_lt (show a.fL < a.PB from Nat.lt_trans o6 (Nat.lt_trans o7 (Nat.lt_trans o8 o9)))
    · exact Nat.ne_of_lt (show a.dL < a.PB from Nat.lt_trans o7 (Nat.lt_trans o8 o9))
    · exact Nat.ne_of_lt (show a.fR < a.PB from Nat.lt_trans o5 (Nat.lt_trans o6 (Nat.lt_trans o7 (Nat.lt_trans o8 o9))))
    · exact Nat.ne_of_lt (show a.cR < a.PB from Nat.lt_trans o4 (Nat.lt_trans o5 (Nat.lt_trans o6 (Nat.lt_trans o7 (Nat.lt_trans o8 o9)))))
    · exact Nat.ne_of_lt (show a.cT < a.PB from Nat.lt_trans o1 (Nat.lt_trans o2 (Nat.lt_trans o3 (Nat.lt_trans o4 (Nat.lt_trans o5 (Nat.lt_trans o6 (Nat.lt_trans o7 (Nat.lt_trans o8 o9))))))))
    · exact Nat.ne_of_lt (show a.cP < a.PB from Nat.lt_trans o2 (Nat.lt_trans o3 (Nat.lt_trans o4 (Nat.lt_trans o5 (Nat.lt_trans o6 (Nat.lt_trans o7 (Nat.lt_trans o8 o9)))))))
    · exact hLPB
    · exact hrest p hp
  intro s6 S6
  rw [List.push_toArray] at S6
  have S6 : St g os h₀ L' _ (lexN a ⟨p, tp, ep, ln, tl, pb ++ [y], pe + 1⟩ ((L, oL) :: rest)) s6 := S6
  refine SeqQ.go ?_; refine r_nil ?_; refine RetQ.ret ?_
  exact h _ (S6.leaveLex hfL S.above (lexNe fun p hp => (S.nw p hp).2.1))
set_option maxHeartbeats 8000000 in
theorem tok_read {Q : Value → Shared → Prop} (O : LexOk w a text) (hh : A.handled = none) (hpb : σ.pb = []) (S : St g os h₀ L l (lexN a σ rest) s) (B : Base w h₀) (hr : A.depth + 20 < recursionLimit) (hrest : ∀ p ∈ rest, p.1 ≠ a.pl ∧ p.1 ≠ a.dX)
    (h : ∀ t σ' s', text.drop σ'.p = (gt (text.drop σ.p) σ.ln).2.1 → σ'.ln = (gt (text.drop σ.p) σ.ln).2.2 → σ'.pb = [] → σ'.pe = σ.pe → St g os h₀ L l (lexN a σ' rest) s' → Q (.str (T (gt (text.drop σ.p) σ.ln).1) t) s') :
    wpAny (MM w) A (call (.ref 70) [.ref a.X]) Q NoE s := by
  obtain ⟨o1, o2, o3, o4, o5, o6, o7, o8, o9⟩ := O.ord
  refine r_callN (binds := [("self", .ref a.X)]) rfl rfl rfl rfl S B (dlt0 hr) (fun L' oL s₁ hfL hLL hlt S₁ => ?_)
  have hLpl : L ≠ a.pl := fun e => (S.nw (a.pl, listOf [Value.int (σ.p : Int) σ.tp].toArray σ.ep) (.head _)).2.1 e.symm
  have hLdX : L ≠ a.dX := fun e => (S.nw (a.dX, dictOf (lexEs a σ.ln σ.tl) a.n) (.tail _ (.head _))).2.1 e.symm
  have S₁ : St g os h₀ L' [("self", .ref a.X)] (lexN a σ ((L, oL) :: rest)) s₁ := S₁.in1
  have lv : ∀ {σ' l' s'}, St g os h₀ L' l' (lexN a σ' ((L, oL) :: rest)) s' → St g os h₀ L l (lexN a σ' rest) s' := fun S' => S'.leaveLex hfL S.above (lexNe fun p hp => (S.nw p hp).2.1)
  refine r_cons ?_; refine r_if ?_; refine isTrue_plain ?_
  refine Attribute_any_ ?_
  refine r_name (by assumption) (by rfl) ?_
  refine r_getOwn (C := 80) S₁ B (by (repeat (first | exact List.Mem.head _ | apply List.Mem.tail))) (by (repeat (first | exact List.Mem.head _ | apply List.Mem.tail))) (k80_get w _) (k80_dict w) (k80_f4 w) rfl rfl rfl ?_
  intro s2 S2
  refine r_tList (its := σ.pb.toArray) S2 (by (repeat (first | exact List.Mem.head _ | apply List.Mem.tail))) (by rw [hpb]; exact Nat.zero_le _) ?_
  intro s3 S3
  refine Br.neg (by rw [hpb]; rfl) ?_
  refine r_nil ?_; refine SeqQ.go ?_; refine r_cons ?_; refine wpAny_Assign_Name ?_; refine r_str (by assumption) ?_; intro _ _ _
  refine r_store (by assumption) ?_; intro _ _; refine SeqQ.go ?_; refine r_cons ?_; refine wpAny_Assign_Name ?_; refine Call_ ?_
  refine r_builtin (by assumption) (by assumption) (by rfl) (by first | reg3_boot | boot_fact) (by decide) ?_
  refine PyProof.Rows.callWith_builtin1 ?_; refine args_cons ?_
  refine Attribute_any_ ?_
  refine r_name (by assumption) (by rfl) ?_
  rename_i t4 s4 S4
  refine r_bound (C := 80) S4 B (by (repeat (first | exact List.Mem.head _ | apply List.Mem.tail))) (by (repeat (first | exact List.Mem.head _ | apply List.Mem.tail))) (k80_get w _) (k80_dict w) (k80_m1 w) (k63_fn w) (k63_get w) (k63_takes w) (by decide +kernel) rfl ?_
  intro q s5 hq S5
  refine args_cons ?_; refine r_str (by assumption) ?_; intro _ _ _; refine args_nil ?_
  rw [em_eq]
  rename_i tI s5b S5b
  refine r_iter2 S5b (.head _) ?_
  intro I s6 hI S6
  refine r_store (by assumption) ?_; intro _ _; refine SeqQ.go ?_; refine r_cons ?_
  refine r_for ?_
  refine r_name (by assumption) (by rfl) ?_
  refine r_iterCI (by assumption) ?_
  rename_i s7 S7
  have hPBI : a.PB < I := hI (a.PB, listOf σ.pb.toArray σ.pe) (by (repeat (first | exact List.Mem.head _ | apply List.Mem.tail)))
  have hPBq : a.PB < q := hq (a.PB, listOf σ.pb.toArray σ.pe) (by (repeat (first | exact List.Mem.head _ | apply List.Mem.tail)))
  have hqI : q < I := hI (q, methodObj (.ref 63) (.ref a.X)) (.head _)
  have hLI : L < I := hI (L, oL) (by (repeat (first | exact List.Mem.head _ | apply List.Mem.tail)))
  have S7 : St g os h₀ L' _ ((I, ciObj q tI) :: lexN a σ ((q, methodObj (.ref 63) (.ref a.X)) :: (L, oL) :: rest)) s7 := S7.drop (by repeat (first | exact sub_nil | refine sub_cons (by repeat (first | exact List.Mem.head _ | apply List.Mem.tail)) ?_ | (intro p hp; repeat (first | exact hp | apply List.Mem.tail))))
  have hrI : ∀ p ∈ rest, p.1 < I := fun p hp => hI p (by simp only [lexN, List.mem_cons]; simp only [hp, or_true])
  have hR1 : ∀ p ∈ ((q, methodObj (.ref 63) (.ref a.X)) :: (L, oL) :: rest : List (Addr × Obj)), p.1 ≠ a.pl ∧ p.1 ≠ a.dX ∧ p.1 ≠ I := by
    intro p hp
    rcases List.mem_cons.mp hp with rfl | hp
    · exact ⟨Nat.ne_of_gt (show a.pl < q from Nat.lt_trans o3 (Nat.lt_trans o4 (Nat.lt_trans o5 (Nat.lt_trans o6 (Nat.lt_trans o7 (Nat.lt_trans o8 (Nat.lt_trans o9 hPBq))))))), Nat.ne_of_gt (show a.dX < q from Nat.lt_trans o8 (Nat.lt_trans o9 hPBq)), Nat.ne_of_lt hqI⟩
    · rcases List.mem_cons.mp hp with rfl | hp
      · exact ⟨hLpl, hLdX, Nat.ne_of_lt hLI⟩
      · exact ⟨(hrest p hp).1, (hrest p hp).2, Nat.ne_of_lt (hrI p hp)⟩
  have hIne : I ≠ a.pl ∧ I ≠ a.dX := ⟨Nat.ne_of_gt (show a.pl < I from Nat.lt_trans o3 (Nat.lt_trans o4 (Nat.lt_trans o5 (Nat.lt_trans o6 (Nat.lt_trans o7 (Nat.lt_trans o8 (Nat.lt_trans o9 hPBI))))))), Nat.ne_of_gt (show a.dX < I from Nat.lt_trans o8 (Nat.lt_trans o9 hPBI))⟩
  generalize hR : ((q, methodObj (.ref 63) (.ref a.X)) :: (L, oL) :: rest : List (Addr × Obj)) = R1 at *
  have hqR : (q, methodObj (.ref 63) (.ref a.X)) ∈ R1 := by rw [← hR]; exact .head _
  have fin : ∀ (tok : List Nat) (t : Tok) (σ' : LexS) l' o' s', gt (text.drop σ.p) σ.ln = (tok, text.drop σ'.p, σ'.ln) → σ'.pb = [] → σ'.pe = σ.pe → St g os h₀ L' l' ((I, o') :: lexN a σ' R1) s' → Q (.str (T tok) t) s' := by
    intro tok t σ' l' o' s' e e1 e2 S'
    subst hR
    have := h t σ' s' (by rw [e]) (by rw [e]) e1 e2 (lv (S'.drop (by repeat (first | exact sub_nil | refine sub_cons (by repeat (first | exact List.Mem.head _ | apply List.Mem.tail)) ?_ | (intro p hp; repeat (first | exact hp | apply List.Mem.tail))))))
    rw [e] at this
    exact this
  rw [em_eq] at S7
  have hlen0 : (text.drop σ.p).length ≤ 1000 := Nat.le_trans (by rw [List.length_drop]; (clear hh hpb hr o1 o2 o3 o4 o5 o6 o7 o8 o9 hLL hLpl hLdX hPBI hPBq hqI hLI hIne hR; omega)) O.len
  refine ForQ.of (fun n s' => (∃ (σ' : LexS) (ts : Tok), σ'.pb = [] ∧ σ'.pe = σ.pe ∧ gt (text.drop σ.p) σ.ln = gt (text.drop σ'.p) σ'.ln ∧ n = (text.drop σ'.p).length + 1 ∧ (text.drop σ'.p).length ≤ 1000 ∧
      St g os h₀ L' [("fiter", .ref I), ("token", .str (T []) ts), ("self", .ref a.X)] ((I, ciObj q tI) :: lexN a σ' R1) s') ∨
      (∃ (σ' : LexS) (tok : List Nat) (ts : Tok), n = 0 ∧ σ'.pb = [] ∧ σ'.pe = σ.pe ∧ gt (text.drop σ.p) σ.ln = (tok, text.drop σ'.p, σ'.ln) ∧ St g os h₀ L' [("token", .str (T tok) ts)] ((I, ciEnd) :: lexN a σ' R1) s'))
    (fun s' => ∃ (σ' : LexS) (tok : List Nat) (ts : Tok), σ'.pb = [] ∧ σ'.pe = σ.pe ∧ gt (text.drop σ.p) σ.ln = (tok, text.drop σ'.p, σ'.ln) ∧ St g os h₀ L' [("token", .str (T tok) ts)] ((I, ciEnd) :: lexN a σ' R1) s')
    _ (.inl ⟨σ, _, hpb, rfl, rfl, rfl, hlen0, St.re S7 ⟨rfl, rfl, rfl, trivial⟩⟩) ?_ ?_
  rotate_left
  · rintro s8 ⟨σ', tok, ts, e1, e2, e3, S8⟩
    refine SeqQ.go ?_; refine r_cons ?_; refine wpAny_Return_some ?_; refine r_name (by assumption) (by rfl) ?_; refine SeqQ.ret ?_
    refine RetQ.ret ?_
    exact fin tok ts σ' _ _ _ e3 e1 e2 S8
  · rintro n Tv Xv hTv hXv s8 (⟨σ', ts, e1, e2, e3, rfl, elen, S8⟩ | ⟨σ', tok, ts, rfl, e1, e2, e3, S8⟩)
    · refine nextLex O hh S8 B (by show A.depth + 11 < _; exact dlt hr) hR1 hPBI hqR ?_ ?_
      · intro c r hd t σ2 s9 st S9
        have hd2 : text.drop σ2.p = r := by rw [st.hp, hd]; rfl
        show wpAny _ _ (letOwnedTupleGo _ _ _) _ _ _
        refine r_letName ?_; refine r_assign (by assumption) ?_; intro _ _; refine r_cons ?_; refine r_if ?_; refine wpAny_isTrue_Compare1 ?_
        refine r_name (by assumption) (by rfl) ?_
        refine Attribute_any_ ?_
        refine r_name (by assumption) (by rfl) ?_
        refine r_getOwn (C := 80) (by assumption) B (by (repeat (first | exact List.Mem.head _ | apply List.Mem.tail))) (by (repeat (first | exact List.Mem.head _ | apply List.Mem.tail))) (k80_get w _) (k80_dict w) (k80_f3 w) rfl rfl rfl ?_
        intro s10 S10
        refine r_inT ?_; refine wpAny_truthy_bool ?_
        refine Br.split (fun e => ?_) (fun e => ?_)
        · have e' : ws c = true := e
          refine r_cons ?_
          refine wpAny_Continue ?_
          repeat' refine SeqQ.cont ?_
          refine hTv _ _ ⟨(text.drop σ2.p).length + 1, by rw [hd2, hd]; simp, .inl ⟨σ2, ts, by rw [st.hpb, e1], by rw [st.hpe, e2], ?_, rfl, by rw [hd2]; rw [hd] at elen; simp only [List.length_cons] at elen; (clear hh hpb hr o1 o2 o3 o4 o5 o6 o7 o8 o9 hLL hLpl hLdX hPBI hPBq hqI hLI hIne hR hlen0 e1 e2 e3 hd hd2 e e'; omega), St.re S10 ⟨rfl, rfl, rfl, trivial⟩⟩⟩
          rw [e3, hd, hd2, st.hln]
          show (if ws c = true then _ else _) = _
          rw [if_pos e']
        have e' : ¬ ws c = true := by rw [show ws c = false from e]; exact Bool.false_ne_true
        have hlr : r.length + 1 ≤ 1000 := by rw [hd] at elen; simpa using elen
        refine r_nil ?_; refine SeqQ.go ?_; refine r_cons ?_; refine r_if ?_; refine wpAny_isTrue_Compare1 ?_
        refine r_name (by assumption) (by rfl) ?_; refine r_str (by assumption) ?_; intro _ _ _; refine PyProof.Rows.eq_str ?_
        refine wpAny_truthy_bool ?_
        rw [dq_eq, T_beq]
        refine Br.split (fun e4 => ?_) (fun e4 => ?_)
        · have e4' : c = 34 := by simpa using e4
          subst e4'
          have hg : gt (text.drop σ.p) σ.ln = qd (text.drop σ2.p) [] σ2.ln := by
            rw [e3, hd, hd2, st.hln]
            show (if ws 34 = true then _ else _) = _
            rw [if_neg e', if_pos rfl]; rfl
          refine r_cons ?_
          refine r_for ?_
          refine r_name (by assumption) (by rfl) ?_
          refine r_iterCI (by assumption) ?_
          rename_i s11 S11
          refine ForQ.of (fun n s' => (∃ (σ' : LexS) (tok : List Nat) (ts : Tok), σ'.pb = [] ∧ σ'.pe = σ.pe ∧ gt (text.drop σ.p) σ.ln = qd (text.drop σ'.p) tok σ'.ln ∧ n = (text.drop σ'.p).length ∧ tok.length + (text.drop σ'.p).length ≤ 1000 ∧
              St g os h₀ L' [("fiter", .ref I), ("token", .str (T tok) ts), ("self", .ref a.X)] ((I, ciObj q tI) :: lexN a σ' R1) s'))
            (fun s' => ∃ (σ' : LexS) (tok : List Nat) (ts : Tok), σ'.pb = [] ∧ σ'.pe = σ.pe ∧ gt (text.drop σ.p) σ.ln = (tok, text.drop σ'.p, σ'.ln) ∧ St g os h₀ L' [("token", .str (T tok) ts)] ((I, ciEnd) :: lexN a σ' R1) s')
            _ ⟨σ2, [], _, by rw [st.hpb, e1], by rw [st.hpe, e2], hg, rfl, by rw [hd2]; simp only [List.length_nil]; (clear hh hpb hr o1 o2 o3 o4 o5 o6 o7 o8 o9 hLL hLpl hLdX hPBI hPBq hqI hLI hIne hR hlen0 e1 e2 e3 elen hd2 hd e e' e4 hg; omega), St.re S11 ⟨rfl, rfl, rfl, trivial⟩⟩ ?_ ?_
          rotate_left
          · rintro s12 ⟨σ', tok, ts, f1, f2, f3, S12⟩
            refine SeqQ.go ?_; refine r_nil ?_; refine SeqQ.go ?_; refine r_nil ?_
            exact hTv _ _ ⟨0, Nat.succ_pos _, .inr ⟨σ', tok, ts, rfl, f1, f2, f3, S12⟩⟩
          rintro n Tw Xw hTw hXw s12 ⟨σ3, tok, ts3, f1, f2, f3, rfl, f4, S12⟩
          refine nextLex O hh S12 B (by show A.depth + 11 < _; exact dlt hr) hR1 hPBI hqR ?_ ?_
          · intro c r hd3 t3 σ4 s13 st4 S13
            have hd4 : text.drop σ4.p = r := by rw [st4.hp, hd3]; rfl
            show wpAny _ _ (letOwnedTupleGo _ _ _) _ _ _
            have hl3 : tok.length + (r.length + 1) ≤ 1000 := by rw [hd3] at f4; simpa using f4
            refine r_letName ?_; refine r_assign (by assumption) ?_; intro _ _; refine r_cons ?_; refine r_if ?_; refine wpAny_isTrue_Compare1 ?_
            refine r_name (by assumption) (by rfl) ?_; refine r_str (by assumption) ?_; intro _ _ _; refine PyProof.Rows.eq_str ?_
            refine wpAny_truthy_bool ?_
            rw [T_beq]
            refine Br.split (fun e5 => ?_) (fun e5 => ?_)
            · have e5' : c = 34 := by simpa using e5
              subst e5'
              refine r_cons ?_; refine wpAny_Return_some ?_; refine r_name (by assumption) (by rfl) ?_; refine SeqQ.ret ?_; refine SeqQ.ret ?_
              refine hTw _ _ (hTv _ _ ?_); refine fin tok ts3 σ4 _ _ _ ?_ (by rw [st4.hpb, f1]) (by rw [st4.hpe, f2]) (by assumption)
              rw [f3, hd3, hd4, st4.hln, qd_cons, if_pos rfl]; simp [nl]
            have e5' : ¬ c = 34 := by simpa using e5
            refine r_cons ?_; refine r_if ?_; refine wpAny_isTrue_Compare1 ?_; refine r_name (by assumption) (by rfl) ?_
            refine r_str (by assumption) ?_; intro _ _ _; refine PyProof.Rows.eq_str ?_; refine wpAny_truthy_bool ?_
            rw [bs_eq, T_beq]
            refine Br.split (fun e6 => ?_) (fun e6 => ?_)
            · have e6' : c = 92 := by simpa using e6
              subst e6'
              refine r_cons ?_; refine wpAny_Assign_Name ?_; refine MethodCall_ ?_; refine r_name (by assumption) (by rfl) ?_
              refine r_method (C := 80) (by assumption) B (by (repeat (first | exact List.Mem.head _ | apply List.Mem.tail))) (by (repeat (first | exact List.Mem.head _ | apply List.Mem.tail))) (k80_get w _) (k80_m1 w) (k63_fn w) rfl ?_
              refine callWith_K0 (St.base (by assumption) B).k rfl ?_
              refine readLex O (by assumption) B (by show A.depth + 11 < _; exact dlt hr) (fun p hp => ⟨(hR1 p hp).1, (hR1 p hp).2.1⟩) hIne ?_
              intro c5 t5 σ5 s14 st5 S14
              refine r_store (by assumption) ?_; intro _ _; refine SeqQ.go ?_; refine r_nil ?_; refine SeqQ.go ?_; refine r_nil ?_; refine SeqQ.go ?_
              refine r_cons ?_; refine wpAny_AugAssign_Name ?_; refine r_load (by assumption) (by rfl) ?_; refine r_name (by assumption) (by rfl) ?_
              refine r_iadds (by assumption) ?_ ?_
              · have : c5.length ≤ 1 := by rw [st5.hc, List.length_take]; (clear hh hpb hr o1 o2 o3 o4 o5 o6 o7 o8 o9 hLL hLpl hLdX hPBI hPBq hqI hLI hIne hR hlen0 e1 e2 e3 elen hd2 hlr hd e e' e4 hg f1 f2 f3 f4 hd4 hl3 hd3 e5 e5' e6; omega)
                (clear hh hpb hr o1 o2 o3 o4 o5 o6 o7 o8 o9 hLL hLpl hLdX hPBI hPBq hqI hLI hIne hR hlen0 e1 e2 e3 elen hd2 hlr hd e e' e4 hg f1 f2 f3 f4 hd4 hd3 e5 e5' e6; omega)
              intro t6 s15 S15
              refine r_store (by assumption) ?_; intro _ _; refine SeqQ.go ?_; refine r_nil ?_
              rename_i S16
              have hd5 : text.drop σ5.p = r.drop 1 := by rw [st5.hp, hd4]
              refine hTw _ _ ⟨(text.drop σ5.p).length, ?_, σ5, tok ++ c5, t6, by rw [st5.hpb, st4.hpb, f1], by rw [st5.hpe, st4.hpe, f2], ?_, rfl, ?_, St.re S16 ⟨rfl, rfl, rfl, trivial⟩⟩
              · rw [hd5, hd3, List.length_drop, List.length_cons]; (clear hh hpb hr o1 o2 o3 o4 o5 o6 o7 o8 o9 hLL hLpl hLdX hPBI hPBq hqI hLI hIne hR hlen0 e1 e2 e3 elen hd2 hlr hd e e' e4 hg f1 f2 f3 f4 hd4 hl3 hd3 e5 e5' e6 hd5; omega)
              · rw [f3, hd3, hd5, st5.hln, st4.hln, st5.hc, hd4]
                cases r with
                | nil => simp [qd, nl]
                | cons d r' => simp [qd, nl]
              · rw [hd5, List.length_append, st5.hc, hd4, List.length_take, List.length_drop]; (clear hh hpb hr o1 o2 o3 o4 o5 o6 o7 o8 o9 hLL hLpl hLdX hPBI hPBq hqI hLI hIne hR hlen0 e1 e2 e3 elen hd2 hlr hd e e' e4 hg f1 f2 f3 f4 hd4 hd3 e5 e5' e6 hd5; omega)
            · have e6' : ¬ c = 92 := by simpa using e6
              refine r_nil ?_; refine SeqQ.go ?_; refine r_nil ?_; refine SeqQ.go ?_; refine r_cons ?_; refine wpAny_AugAssign_Name ?_
              refine r_load (by assumption) (by rfl) ?_; refine r_name (by assumption) (by rfl) ?_
              refine r_iadds (by assumption) (by simp only [List.length_cons, List.length_nil]; (clear hh hpb hr o1 o2 o3 o4 o5 o6 o7 o8 o9 hLL hLpl hLdX hPBI hPBq hqI hLI hIne hR hlen0 e1 e2 e3 elen hd2 hlr hd e e' e4 hg f1 f2 f3 f4 hd3 hd4 e5 e5' e6 e6'; omega)) ?_
              intro t6 s15 S15
              refine r_store (by assumption) ?_; intro _ _; refine SeqQ.go ?_; refine r_nil ?_
              rename_i S16
              refine hTw _ _ ⟨(text.drop σ4.p).length, by rw [hd4, hd3]; simp, σ4, tok ++ [c], t6, by rw [st4.hpb, f1], by rw [st4.hpe, f2], ?_, rfl, ?_, St.re S16 ⟨rfl, rfl, rfl, trivial⟩⟩
              · rw [f3, hd3, hd4, st4.hln]
                rw [qd_cons, if_neg e5', if_neg e6']
              · rw [hd4, List.length_append]; simp only [List.length_cons, List.length_nil]; (clear hh hpb hr o1 o2 o3 o4 o5 o6 o7 o8 o9 hLL hLpl hLdX hPBI hPBq hqI hLI hIne hR hlen0 e1 e2 e3 elen hd2 hlr hd e e' e4 hg f1 f2 f3 f4 hd3 hd4 e5 e5' e6 e6'; omega)
          · intro hd3 σ4 s13 st4 S13
            refine hXw _ ⟨σ4, tok, ts3, by rw [st4.hpb, f1], by rw [st4.hpe, f2], ?_, St.re S13 ⟨rfl, trivial⟩⟩
            rw [f3, hd3, show text.drop σ4.p = [] by rw [st4.hp, hd3]; rfl, st4.hln]
            rfl
        have e4' : ¬ c = 34 := by simpa using e4
        have hnl : nl [c] = 0 := by
          unfold nl
          rw [if_neg]
          intro hc
          have : c = 10 := by simpa using hc
          subst this
          exact e' rfl
        refine r_cons ?_
        refine r_ifJ (fun s' => ∃ (σ5 : LexS) (c5 : List Nat) (t5 : Tok), σ5.pb = [] ∧ σ5.pe = σ.pe ∧ gt (text.drop σ.p) σ.ln = ud (text.drop σ5.p) c5 σ5.ln ∧ c5.length ≤ 1 ∧ (text.drop σ5.p).length ≤ r.length ∧
          St g os h₀ L' [("ch", .str (T c5) t5), ("fiter", .ref I), ("token", .str (T []) ts), ("self", .ref a.X)] ((I, ciObj q tI) :: lexN a σ5 R1) s') ?_ ?_
        · refine wpAny_isTrue_Compare1 ?_; refine r_name (by assumption) (by rfl) ?_; refine r_str (by assumption) ?_; intro _ _ _
          refine PyProof.Rows.eq_str ?_; refine wpAny_truthy_bool ?_
          rw [bs_eq, T_beq]
          refine Br.split (fun e6 => ?_) (fun e6 => ?_)
          · have e6' : c = 92 := by simpa using e6
            subst e6'
            refine r_cons ?_; refine wpAny_Assign_Name ?_; refine MethodCall_ ?_; refine r_name (by assumption) (by rfl) ?_
            refine r_method (C := 80) (by assumption) B (by (repeat (first | exact List.Mem.head _ | apply List.Mem.tail))) (by (repeat (first | exact List.Mem.head _ | apply List.Mem.tail))) (k80_get w _) (k80_m1 w) (k63_fn w) rfl ?_
            refine callWith_K0 (St.base (by assumption) B).k rfl ?_
            refine readLex O (by assumption) B (by show A.depth + 11 < _; exact dlt hr) (fun p hp => ⟨(hR1 p hp).1, (hR1 p hp).2.1⟩) hIne ?_
            intro c5 t5 σ5 s14 st5 S14
            refine r_store (by assumption) ?_; intro _ _; refine SeqQ.go ?_; refine r_nil ?_
            rename_i S15
            have hd5 : text.drop σ5.p = r.drop 1 := by rw [st5.hp, hd2]
            refine ⟨rfl, σ5, c5, t5, by rw [st5.hpb, st.hpb, e1], by rw [st5.hpe, st.hpe, e2], ?_, by rw [st5.hc, List.length_take]; (clear hh hpb hr o1 o2 o3 o4 o5 o6 o7 o8 o9 hLL hLpl hLdX hPBI hPBq hqI hLI hIne hR hlen0 e1 e2 e3 elen hd2 hlr hd e e' e4 e4' hnl e6 hd5; omega), by rw [hd5, List.length_drop]; (clear hh hpb hr o1 o2 o3 o4 o5 o6 o7 o8 o9 hLL hLpl hLdX hPBI hPBq hqI hLI hIne hR hlen0 e1 e2 e3 elen hd2 hd e e' e4 e4' hnl e6 hd5; omega), St.re S15 ⟨rfl, rfl, rfl, rfl, trivial⟩⟩
            rw [e3, hd, hd5, st5.hln, st.hln, st5.hc, hd2]
            have e7 : ¬ ws 92 = true := by decide
            cases r with
            | nil => simp [gt, ud, nl, e7]
            | cons d r' => simp [gt, nl, e7]
          · have e6' : ¬ c = 92 := by simpa using e6
            refine r_nil ?_
            rename_i S15
            refine ⟨rfl, σ2, [c], t, by rw [st.hpb, e1], by rw [st.hpe, e2], ?_, Nat.le_refl _, by rw [hd2]; exact Nat.le_refl _, St.re S15 ⟨rfl, rfl, rfl, rfl, trivial⟩⟩
            rw [e3, hd, hd2, st.hln, hnl]
            rw [gt_cons, if_neg e', if_neg e4', if_neg e6', Nat.add_zero]
        rintro s10 ⟨σ5, c5, t5, k1, k2, k3, k4, k5, S10⟩
        refine SeqQ.go ?_; refine r_cons ?_; refine wpAny_AugAssign_Name ?_; refine r_load (by assumption) (by rfl) ?_
        refine r_name (by assumption) (by rfl) ?_
        refine r_iadds (by assumption) (by simp only [List.length_nil]; (clear hh hpb hr o1 o2 o3 o4 o5 o6 o7 o8 o9 hLL hLpl hLdX hPBI hPBq hqI hLI hIne hR hlen0 e1 e2 e3 elen hd hd2 e e' hlr e4 e4' hnl k1 k2 k3 k5; omega)) ?_
        intro t6 s11 S11
        rw [List.nil_append]
        refine r_store (by assumption) ?_; intro _ _; refine SeqQ.go ?_; refine r_cons ?_
        refine r_for ?_
        refine r_name (by assumption) (by rfl) ?_
        refine r_iterCI (by assumption) ?_
        rename_i s12 S12
        refine ForQ.of (fun n s' => (∃ (σ' : LexS) (tok : List Nat) (ts : Tok), σ'.pb = [] ∧ σ'.pe = σ.pe ∧ gt (text.drop σ.p) σ.ln = ud (text.drop σ'.p) tok σ'.ln ∧ n = (text.drop σ'.p).length ∧ tok.length + (text.drop σ'.p).length ≤ 1001 ∧
            St g os h₀ L' [("fiter", .ref I), ("token", .str (T tok) ts), ("self", .ref a.X)] ((I, ciObj q tI) :: lexN a σ' R1) s'))
          (fun s' => ∃ (σ' : LexS) (tok : List Nat) (ts : Tok), σ'.pb = [] ∧ σ'.pe = σ.pe ∧ gt (text.drop σ.p) σ.ln = (tok, text.drop σ'.p, σ'.ln) ∧ St g os h₀ L' [("token", .str (T tok) ts)] ((I, ciEnd) :: lexN a σ' R1) s')
          _ ⟨σ5, c5, _, k1, k2, k3, rfl, by (clear hh hpb hr o1 o2 o3 o4 o5 o6 o7 o8 o9 hLL hLpl hLdX hPBI hPBq hqI hLI hIne hR hlen0 e1 e2 e3 elen hd hd2 e e' e4 e4' hnl k1 k2 k3; omega), St.re S12 ⟨rfl, rfl, rfl, trivial⟩⟩ ?_ ?_
        rotate_left
        · rintro s12 ⟨σ', tok, ts, f1, f2, f3, S12⟩
          refine SeqQ.go ?_; refine r_nil ?_; refine SeqQ.go ?_; refine r_nil ?_
          exact hTv _ _ ⟨0, Nat.succ_pos _, .inr ⟨σ', tok, ts, rfl, f1, f2, f3, S12⟩⟩
        rintro n Tw Xw hTw hXw s12 ⟨σ3, tok, ts3, f1, f2, f3, rfl, f4, S12⟩
        refine nextLex O hh S12 B (by show A.depth + 11 < _; exact dlt hr) hR1 hPBI hqR ?_ ?_
        · intro c r hd3 t3 σ4 s13 st4 S13
          have hd4 : text.drop σ4.p = r := by rw [st4.hp, hd3]; rfl
          show wpAny _ _ (letOwnedTupleGo _ _ _) _ _ _
          have hl3 : tok.length + (r.length + 1) ≤ 1001 := by rw [hd3] at f4; simpa using f4
          refine r_letName ?_; refine r_assign (by assumption) ?_; intro _ _; refine r_cons ?_; refine r_if ?_; refine wpAny_isTrue_Compare1 ?_
          refine r_name (by assumption) (by rfl) ?_
          refine Attribute_any_ ?_
          refine r_name (by assumption) (by rfl) ?_
          refine r_getOwn (C := 80) (by assumption) B (by (repeat (first | exact List.Mem.head _ | apply List.Mem.tail))) (by (repeat (first | exact List.Mem.head _ | apply List.Mem.tail))) (k80_get w _) (k80_dict w) (k80_f3 w) rfl rfl rfl ?_
          intro s14 S14
          refine r_inT ?_; refine wpAny_truthy_bool ?_
          refine Br.split (fun e5 => ?_) (fun e5 => ?_)
          · have e5' : ws c = true := e5
            refine r_cons ?_; refine wpAny_Return_some ?_; refine r_name (by assumption) (by rfl) ?_; refine SeqQ.ret ?_; refine SeqQ.ret ?_
            refine hTw _ _ (hTv _ _ ?_); refine fin tok ts3 σ4 _ _ _ ?_ (by rw [st4.hpb, f1]) (by rw [st4.hpe, f2]) (by assumption)
            rw [f3, hd3, hd4, st4.hln]
            rw [ud_cons, if_pos e5']
          have e5' : ¬ ws c = true := by rw [show ws c = false from e5]; exact Bool.false_ne_true
          have hnl4 : nl [c] = 0 := by
            unfold nl
            rw [if_neg]
            intro hc
            have : c = 10 := by simpa using hc
            subst this
            exact e5' rfl
          refine r_cons ?_; refine r_if ?_; refine wpAny_isTrue_Compare1 ?_; refine r_name (by assumption) (by rfl) ?_
          refine r_str (by assumption) ?_; intro _ _ _; refine PyProof.Rows.eq_str ?_; refine wpAny_truthy_bool ?_
          rw [bs_eq, T_beq]
          refine Br.split (fun e6 => ?_) (fun e6 => ?_)
          · have e6' : c = 92 := by simpa using e6
            subst e6'
            refine r_cons ?_; refine wpAny_Assign_Name ?_; refine MethodCall_ ?_; refine r_name (by assumption) (by rfl) ?_
            refine r_method (C := 80) (by assumption) B (by (repeat (first | exact List.Mem.head _ | apply List.Mem.tail))) (by (repeat (first | exact List.Mem.head _ | apply List.Mem.tail))) (k80_get w _) (k80_m1 w) (k63_fn w) rfl ?_
            refine callWith_K0 (St.base (by assumption) B).k rfl ?_
            refine readLex O (by assumption) B (by show A.depth + 11 < _; exact dlt hr) (fun p hp => ⟨(hR1 p hp).1, (hR1 p hp).2.1⟩) hIne ?_
            intro c5 t5 σ5 s14 st5 S14
            refine r_store (by assumption) ?_; intro _ _; refine SeqQ.go ?_; refine r_nil ?_; refine SeqQ.go ?_; refine r_nil ?_; refine SeqQ.go ?_
            refine r_cons ?_; refine wpAny_AugAssign_Name ?_; refine r_load (by assumption) (by rfl) ?_; refine r_name (by assumption) (by rfl) ?_
            refine r_iadds (by assumption) ?_ ?_
            · have : c5.length ≤ 1 := by rw [st5.hc, List.length_take]; (clear hh hpb hr o1 o2 o3 o4 o5 o6 o7 o8 o9 hLL hLpl hLdX hPBI hPBq hqI hLI hIne hR hlen0 e1 e2 e3 elen hd hd2 e e' hlr e4 e4' hnl k1 k2 k3 k4 k5 f1 f2 f3 f4 hd4 hl3 hd3 e5 e5' hnl4 e6; omega)
              (clear hh hpb hr o1 o2 o3 o4 o5 o6 o7 o8 o9 hLL hLpl hLdX hPBI hPBq hqI hLI hIne hR hlen0 e1 e2 e3 elen hd hd2 e e' hlr e4 e4' hnl k1 k2 k3 k4 k5 f1 f2 f3 f4 hd4 hd3 e5 e5' hnl4 e6; omega)
            intro t6 s15 S15
            refine r_store (by assumption) ?_; intro _ _; refine SeqQ.go ?_; refine r_nil ?_
            rename_i S16
            have hd5 : text.drop σ5.p = r.drop 1 := by rw [st5.hp, hd4]
            refine hTw _ _ ⟨(text.drop σ5.p).length, ?_, σ5, tok ++ c5, t6, by rw [st5.hpb, st4.hpb, f1], by rw [st5.hpe, st4.hpe, f2], ?_, rfl, ?_, St.re S16 ⟨rfl, rfl, rfl, trivial⟩⟩
            · rw [hd5, hd3, List.length_drop, List.length_cons]; (clear hh hpb hr o1 o2 o3 o4 o5 o6 o7 o8 o9 hLL hLpl hLdX hPBI hPBq hqI hLI hIne hR hlen0 e1 e2 e3 elen hd hd2 e e' hlr e4 e4' hnl k1 k2 k3 k4 k5 f1 f2 f3 f4 hd4 hl3 hd3 e5 e5' hnl4 e6 hd5; omega)
            · rw [f3, hd3, hd5, st5.hln, st4.hln, st5.hc, hd4]
              cases r with
              | nil => simp [ud, nl, e5']
              | cons d r' => simp [ud, nl, e5']
            · rw [hd5, List.length_append, st5.hc, hd4, List.length_take, List.length_drop]; (clear hh hpb hr o1 o2 o3 o4 o5 o6 o7 o8 o9 hLL hLpl hLdX hPBI hPBq hqI hLI hIne hR hlen0 e1 e2 e3 elen hd hd2 e e' hlr e4 e4' hnl k1 k2 k3 k4 k5 f1 f2 f3 f4 hd4 hd3 e5 e5' hnl4 e6 hd5; omega)
          · have e6' : ¬ c = 92 := by simpa using e6
            refine r_nil ?_; refine SeqQ.go ?_; refine r_nil ?_; refine SeqQ.go ?_; refine r_cons ?_; refine wpAny_AugAssign_Name ?_
            refine r_load (by assumption) (by rfl) ?_; refine r_name (by assumption) (by rfl) ?_
            refine r_iadds (by assumption) (by simp only [List.length_cons, List.length_nil]; (clear hh hpb hr o1 o2 o3 o4 o5 o6 o7 o8 o9 hLL hLpl hLdX hPBI hPBq hqI hLI hIne hR hlen0 e1 e2 e3 elen hd hd2 e e' hlr e4 e4' hnl k1 k2 k3 k4 k5 f1 f2 f3 f4 hd3 hd4 e5 e5' hnl4 e6 e6'; omega)) ?_
            intro t6 s15 S15
            refine r_store (by assumption) ?_; intro _ _; refine SeqQ.go ?_; refine r_nil ?_
            rename_i S16
            refine hTw _ _ ⟨(text.drop σ4.p).length, by rw [hd4, hd3]; simp, σ4, tok ++ [c], t6, by rw [st4.hpb, f1], by rw [st4.hpe, f2], ?_, rfl, ?_, St.re S16 ⟨rfl, rfl, rfl, trivial⟩⟩
            · rw [f3, hd3, hd4, st4.hln, hnl4]
              rw [ud_cons, if_neg e5', if_neg e6', Nat.add_zero]
            · rw [hd4, List.length_append]; simp only [List.length_cons, List.length_nil]; (clear hh hpb hr o1 o2 o3 o4 o5 o6 o7 o8 o9 hLL hLpl hLdX hPBI hPBq hqI hLI hIne hR hlen0 e1 e2 e3 elen hd hd2 e e' hlr e4 e4' hnl k1 k2 k3 k4 k5 f1 f2 f3 f4 hd3 hd4 e5 e5' hnl4 e6 e6'; omega)
        · intro hd3 σ4 s13 st4 S13
          refine hXw _ ⟨σ4, tok, ts3, by rw [st4.hpb, f1], by rw [st4.hpe, f2], ?_, St.re S13 ⟨rfl, trivial⟩⟩
          rw [f3, hd3, show text.drop σ4.p = [] by rw [st4.hp, hd3]; rfl, st4.hln]
          rfl
      · intro hd σ2 s9 st S9
        refine hXv _ ⟨σ2, [], ts, by rw [st.hpb, e1], by rw [st.hpe, e2], ?_, St.re S9 ⟨rfl, trivial⟩⟩
        rw [e3, hd, show text.drop σ2.p = [] by rw [st.hp, hd]; rfl, st.hln]
        rfl
    · refine r_nextCE hh S8 ?_
      intro s9 S9
      exact hXv _ ⟨σ', tok, ts, e1, e2, e3, S9⟩
end
end Mine
end
section
open PySem PySem.W PyProof.Rows PySem.Calls
set_option Elab.async false
set_option maxRecDepth 100000
set_option maxHeartbeats 1000000
set_option linter.unusedVariables false
namespace Mine
/-- what the top bears beyond Base -/
noncomputable def TopX (h : Heap) : Prop := ∃ p loose mean mg mb, Top p loose mean mg mb h
section
variable {M : Model} {w : World} {A : Around} {E : Value → Shared → Prop} {s : Shared} {g : Array GenState} {os : OsState} {h₀ : Heap} {L a c P : Addr} {l : List (Str × Value)} {news : List (Addr × Obj)} {G : Obj → List (Addr × Obj)}
  {cn : Str} {cs : Scope} {ccd : Value} {cl : List (Str × Addr)} {name qual : Str} {params : Arguments} {scope : Scope} {ps : Array Value} {pos : Pos} {firstLine : Nat} {clos : List (Str × Addr)}
theorem r_nest {body : List Stmt} {Q : Value → Shared → Prop} (S : St g os h₀ L l news s) (TX : TopX h₀) (C : CodeHd h₀ c P) (hcd : ccd = .ref c) (U : UpdF P (tabObj ps) news G) (ht : TriplesOk ps.toList) (hnf : codeAmong pos ps.toList = none) (hcl : closureFor scope (envX cn cs L a ccd cl) = pure clos)
    (h : ∀ f c' oc vs t ctv doc pm s', St g os h₀ L l ((f, fnMade name qual params body scope clos doc pm c' ctv) :: (c', oc) :: G (tabObj (ps ++ #[rawInt pos.line, rawInt pos.col, .ref c']))) s' → oc.data = .fields vs → vs[1]? = some (.str qual t) → (∀ q ∈ news, q.1 < c') → c' < f → Q (.ref f) s') :
    wpAny M A (makeFunction name qual params (.stmts body) scope (envX cn cs L a ccd cl) [] [] [] pos firstLine) Q E s := by
  obtain ⟨p, loose, mean, mg, mb, T⟩ := TX
  obtain ⟨m, F, H⟩ := S.fr
  exact nest_K F S.nw T C hcd U ht hnf hcl fun f c' oc vs t ctv doc h' tk F' N' hd hv h1 h2 => h f c' oc vs t ctv doc _ _ ⟨⟨_, F', H⟩, N', S.gens, S.os⟩ hd hv h1 h2
theorem r_lam {body : Expr} {Q : Value → Shared → Prop} (S : St g os h₀ L l news s) (TX : TopX h₀) (C : CodeHd h₀ c P) (hcd : ccd = .ref c) (U : UpdF P (tabObj ps) news G) (ht : TriplesOk ps.toList) (hnf : codeAmong pos ps.toList = none) (hcl : closureFor scope (envX cn cs L a ccd cl) = pure clos)
    (h : ∀ f c' oc vs t ctv pm s', St g os h₀ L l ((f, kla_obj name qual params body scope clos pm c' ctv) :: (c', oc) :: G (tabObj (ps ++ #[rawInt pos.line, rawInt pos.col, .ref c']))) s' → oc.data = .fields vs → vs[1]? = some (.str qual t) → (∀ q ∈ news, q.1 < c') → c' < f → Q (.ref f) s') :
    wpAny M A (makeFunction name qual params (.expr body) scope (envX cn cs L a ccd cl) [] [] [] pos firstLine) Q E s := by
  obtain ⟨p, loose, mean, mg, mb, T⟩ := TX
  obtain ⟨m, F, H⟩ := S.fr
  exact kla_nest F S.nw T C hcd U ht hnf hcl fun f c' oc vs t ctv h' tk F' N' hd hv h1 h2 => h f c' oc vs t ctv _ _ ⟨⟨_, F', H⟩, N', S.gens, S.os⟩ hd hv h1 h2
theorem r_make {prog : Program} {C fI : Addr} {args : List Value} {Q : Value → Shared → Prop} (S : St g os h₀ L l news s) (B : Base w h₀) (hm : makesIn (KK w) C = true) (hi : findIn (KK w) (.ref C) "__init__" = some (some (.ref fI))) (hf : isFn (KK w) (.ref fI) = true)
    (h : ∀ x dx s', St g os h₀ L l ((x, instObj C dx) :: (dx, dictOf [] 0) :: news) s' → (∀ p ∈ news, p.1 < dx) → dx < x →
      codeAny (model prog w) (A.under (.builtin "type.__call__" ⟨.ref C :: args, []⟩)) (.call (.ref fI) ⟨.ref x :: args, []⟩) (InitBack x fun r s' => match r with | .ok (.ret v) => Q v s' | .ok _ => False | .error e => E e s') s') :
    wpAny (model prog w) A (call (.ref C) args) Q E s := by
  obtain ⟨m, F, H⟩ := S.fr
  exact call_cls F B.k S.nw hm hi hf fun x dx h' F' N' h1 h2 => h x dx _ ⟨⟨_, F', H⟩, N', S.gens, S.os⟩ h1 h2
end
section
variable {w : World} {A : Around} {s : Shared} {g : Array GenState} {os : OsState} {h₀ : Heap} {L : Addr} {l : List (Str × Value)} {rest : List (Addr × Obj)} {text : List Nat}
set_option maxHeartbeats 8000000 in
theorem lexer_spec {t : Tok} {Q : Value → Shared → Prop} (S : St g os h₀ L l ((86, tabObj #[]) :: rest) s) (B : Base w h₀) (TX : TopX h₀) (C : CodeHd h₀ 90 86) (hr : A.depth + 20 < recursionLimit) (hlen : text.length ≤ 1000) (hrest : ∀ p ∈ rest, p.1 ≠ 86)
    (h : ∀ a σ ps s', LexOk w a text → σ.p = 0 → σ.ln = 1 → σ.pb = [] → (∀ p ∈ ((86, tabObj #[]) :: rest : List (Addr × Obj)), p.1 < a.cT) → St g os h₀ L l (lexN a σ ((86, tabObj ps) :: rest)) s' → Q (.ref a.X) s') :
    wpAny (MM w) A (call (.ref 91) [.str (T text) t]) Q NoE s := by
  obtain ⟨oL, hoL, hfL⟩ := S.obj
  have hn0 : ∀ p ∈ ((L, oL) :: (86, tabObj #[]) :: rest : List (Addr × Obj)), s.heap.get? p.1 = some p.2 ∧ h₀.get? p.1 = none := by
    intro p hp
    rcases List.mem_cons.mp hp with rfl | hp
    · exact ⟨hoL, S.fresh S.above⟩
    · exact ⟨(S.nw p hp).1, (S.nw p hp).2.2⟩
  refine r_callC (hb := h₀) (news := (L, oL) :: (86, tabObj #[]) :: rest) (l := []) (binds := [("text", .str (T text) t)]) rfl rfl rfl ?_ B S.keep (Nat.le_trans S.above (Nat.le_of_lt S.Llt)) hn0 (by omega) ?_ ?_
  · intro N x hx
    rcases List.mem_singleton.mp hx with rfl
    exact .inr ⟨rfl, rfl⟩
  · exact fun L => trivial
  intro (L' : Nat) s₁ hlt X S₁
  rw [S.gens, S.os] at S₁
  have ab : h₀.objs.size ≤ L' := S₁.above
  obtain ⟨c1, hc1, S₁⟩ := S₁.addCell (X.cell "text" (L' + 1) rfl : s₁.heap.IsCell (L' + 1) (some (.str (T text) t))) (Nat.succ_ne_self L') (Nat.le_trans ab (Nat.le_add_right L' 1))
  obtain ⟨c2, hc2, S₁⟩ := S₁.addCell (X.cell "place" (L' + 2) rfl : s₁.heap.IsCell (L' + 2) none) (Nat.ne_of_gt (Nat.lt_add_of_pos_right (by decide : 0 < 2))) (Nat.le_trans ab (Nat.le_add_right L' 2))
  clear X
  refine r_cons ?_; refine wpAny_Assign_Name ?_; refine List_ ?_; refine args_cons ?_; refine r_int (by assumption) ?_; intro _ _ _
  refine args_nil ?_; refine r_newList (by assumption) (by simp) ?_; intro _ _ _ _
  rename_i tz _ _ pl9 s2 hpl S2
  obtain ⟨pl, epl⟩ : ∃ n : Nat, n = pl9 := ⟨pl9, rfl⟩
  subst epl
  obtain ⟨L, eL⟩ : ∃ n : Nat, n = L := ⟨L, rfl⟩
  subst eL
  have b1 : (L' + 2 : Nat) < (pl : Nat) := hpl (L' + 2, c2) (.head _)
  have b2 : (L : Nat) < (L' : Nat) := hlt (L, oL) (.head _)
  have b3 : (86 : Nat) < (L' : Nat) := hlt (86, tabObj #[]) (.tail _ (.head _))
  have b4 : ∀ p ∈ rest, (p.1 : Nat) < (L' : Nat) := fun p hp => hlt p (.tail _ (.tail _ hp))
  have S2 := S2.drop (news' := (L' + 2, c2) :: (pl, listOf [Value.int 0 tz].toArray 0) :: (L' + 1, c1) :: (L, oL) :: (86, tabObj #[]) :: rest) (by repeat (first | exact sub_nil | refine sub_cons (by repeat (first | exact List.Mem.head _ | apply List.Mem.tail)) ?_ | (intro p hp; repeat (first | exact hp | apply List.Mem.tail))))
  refine r_storeCellE S2 rfl hc2 (.head (fun p hp => ?_)) ?_
  · simp only [List.mem_cons] at hp
    rcases hp with rfl | rfl | rfl | rfl | hp
    · exact Nat.ne_of_gt (show (L' + 2 : Nat) < (pl : Nat) from b1)
    · exact Nat.ne_of_lt (show (L' + 1 : Nat) < (L' + 2 : Nat) from (Nat.lt_succ_self (L' + 1)))
    · exact Nat.ne_of_lt (show (L : Nat) < (L' + 2 : Nat) from Nat.lt_trans b2 (Nat.lt_trans (Nat.lt_succ_self L') ((Nat.lt_succ_self (L' + 1)))))
    · exact Nat.ne_of_lt (show (86 : Nat) < (L' + 2 : Nat) from Nat.lt_trans b3 (Nat.lt_trans (Nat.lt_succ_self L') ((Nat.lt_succ_self (L' + 1)))))
    · exact Nat.ne_of_lt (Nat.lt_add_right 2 (b4 p hp))
  intro s3 S3
  generalize hb2 : ({ c2 with data := .cell (some (.ref pl)) } : Obj) = o2 at S3
  have ho2 : o2.data = .cell (some (.ref pl)) := by rw [← hb2]
  clear hb2 hc2 S2
  have S3 := S3.drop (news' := (86, tabObj #[]) :: (L' + 2, o2) :: (pl, listOf [Value.int 0 tz].toArray 0) :: (L' + 1, c1) :: (L, oL) :: rest) (by repeat (first | exact sub_nil | refine sub_cons (by repeat (first | exact List.Mem.head _ | apply List.Mem.tail)) ?_ | (intro p hp; repeat (first | exact hp | apply List.Mem.tail))))
  refine SeqQ.go ?_; refine r_cons ?_
  refine nestDef_K rfl rfl rfl ?_
  refine r_nest S3 TX C rfl (.head (fun p hp => ?_)) trivial rfl rfl ?_
  · simp only [List.mem_cons] at hp
    rcases hp with rfl | rfl | rfl | rfl | hp
    · exact Nat.ne_of_gt (show (86 : Nat) < (L' + 2 : Nat) from Nat.lt_trans b3 (Nat.lt_trans (Nat.lt_succ_self L') ((Nat.lt_succ_self (L' + 1)))))
    · exact Nat.ne_of_gt (show (86 : Nat) < (pl : Nat) from Nat.lt_trans b3 (Nat.lt_trans (Nat.lt_succ_self L') (Nat.lt_trans (Nat.lt_succ_self (L' + 1)) b1)))
    · exact Nat.ne_of_gt (show (86 : Nat) < (L' + 1 : Nat) from Nat.lt_trans b3 ((Nat.lt_succ_self L')))
    · exact fun e => (S.nw (86, tabObj #[]) (.head _)).2.1 e.symm
    · exact hrest p hp
  intro (fR : Nat) (cR : Nat) ocR vsR tR ctvR docR pmR s4 S4 hdR hvR hcR hfR
  refine r_storeE (by assumption) ?_; intro _ _; refine SeqQ.go ?_; refine r_cons ?_; refine wpAny_Assign_Name ?_
  refine kla_eval rfl ?_
  rename_i S5
  generalize hoR : fnMade _ _ _ _ _ _ _ _ cR ctvR = oR at S5
  generalize htab : tabObj (#[] ++ #[_, _, Value.ref cR]) = oP1 at S5
  have b6 : cR < fR := hfR
  have b5 : pl < cR := hcR (pl, listOf [Value.int 0 tz].toArray 0) (.tail _ (.tail _ (.head _)))
  have S5 := S5.drop (news' := (86, oP1) :: (fR, oR) :: (cR, ocR) :: (L' + 2, o2) :: (pl, listOf [Value.int 0 tz].toArray 0) :: (L' + 1, c1) :: (L, oL) :: rest) (by repeat (first | exact sub_nil | refine sub_cons (by repeat (first | exact List.Mem.head _ | apply List.Mem.tail)) ?_ | (intro p hp; repeat (first | exact hp | apply List.Mem.tail))))
  have hL86 : L ≠ 86 := fun e => (S.nw (86, tabObj #[]) (.head _)).2.1 e.symm
  rw [← htab] at S5
  refine r_lam S5 TX C rfl (.head (fun p hp => ?_)) (by simp [TriplesOk, rawInt]) (by simp [codeAmong, rawInt]) rfl ?_
  · simp only [List.mem_cons] at hp
    rcases hp with rfl | rfl | rfl | rfl | rfl | rfl | hp
    · exact Nat.ne_of_gt (show (86 : Nat) < (fR : Nat) from Nat.lt_trans b3 (Nat.lt_trans (Nat.lt_succ_self L') (Nat.lt_trans (Nat.lt_succ_self (L' + 1)) (Nat.lt_trans b1 (Nat.lt_trans b5 b6)))))
    · exact Nat.ne_of_gt (show (86 : Nat) < (cR : Nat) from Nat.lt_trans b3 (Nat.lt_trans (Nat.lt_succ_self L') (Nat.lt_trans (Nat.lt_succ_self (L' + 1)) (Nat.lt_trans b1 b5))))
    · exact Nat.ne_of_gt (show (86 : Nat) < (L' + 2 : Nat) from Nat.lt_trans b3 (Nat.lt_trans (Nat.lt_succ_self L') ((Nat.lt_succ_self (L' + 1)))))
    · exact Nat.ne_of_gt (show (86 : Nat) < (pl : Nat) from Nat.lt_trans b3 (Nat.lt_trans (Nat.lt_succ_self L') (Nat.lt_trans (Nat.lt_succ_self (L' + 1)) b1)))
    · exact Nat.ne_of_gt (show (86 : Nat) < (L' + 1 : Nat) from Nat.lt_trans b3 ((Nat.lt_succ_self L')))
    · exact hL86
    · exact hrest p hp
  intro (fL : Nat) (cL : Nat) ocL vsL tL ctvL pmL s6 S6 _ _ hcL hfL'
  refine r_storeE (by assumption) ?_; intro _ _; refine SeqQ.go ?_; refine r_cons ?_
  rename_i S7
  generalize hoL' : kla_obj _ _ _ _ _ _ _ cL ctvL = oLm at S7
  generalize htab2 : tabObj (_ ++ #[_, _, Value.ref cL]) = oP2 at S7
  have b7 : fR < cL := hcL (fR, oR) (.tail _ (.head _))
  have b8 : cL < fL := hfL'
  have hcls : oLm.cls = .type "function" := by rw [← hoL']
  have hdic : oLm.dict = none := by rw [← hoL']
  obtain ⟨fdL, hfd⟩ : ∃ fd, oLm.data = .func fd := by rw [← hoL']; exact ⟨_, rfl⟩
  refine plainObj_wpAny_Assign_Attribute ?_
  refine r_nameE (by assumption) (by rfl) ?_; refine r_nameE (by assumption) (by rfl) ?_
  refine r_fnSet (v := .ref fR) (by assumption) (fun p hp => ?_) hcls hdic hfd ?_
  · simp only [List.mem_cons] at hp
    rcases hp with rfl | rfl | rfl | rfl | rfl | rfl | rfl | rfl | hp
    · exact Nat.ne_of_lt (show (cL : Nat) < (fL : Nat) from b8)
    · exact Nat.ne_of_lt (show (86 : Nat) < (fL : Nat) from Nat.lt_trans b3 (Nat.lt_trans (Nat.lt_succ_self L') (Nat.lt_trans (Nat.lt_succ_self (L' + 1)) (Nat.lt_trans b1 (Nat.lt_trans b5 (Nat.lt_trans b6 (Nat.lt_trans b7 b8)))))))
    · exact Nat.ne_of_lt (show (fR : Nat) < (fL : Nat) from Nat.lt_trans b7 b8)
    · exact Nat.ne_of_lt (show (cR : Nat) < (fL : Nat) from Nat.lt_trans b6 (Nat.lt_trans b7 b8))
    · exact Nat.ne_of_lt (show (L' + 2 : Nat) < (fL : Nat) from Nat.lt_trans b1 (Nat.lt_trans b5 (Nat.lt_trans b6 (Nat.lt_trans b7 b8))))
    · exact Nat.ne_of_lt (show (pl : Nat) < (fL : Nat) from Nat.lt_trans b5 (Nat.lt_trans b6 (Nat.lt_trans b7 b8)))
    · exact Nat.ne_of_lt (show (L' + 1 : Nat) < (fL : Nat) from Nat.lt_trans (Nat.lt_succ_self (L' + 1)) (Nat.lt_trans b1 (Nat.lt_trans b5 (Nat.lt_trans b6 (Nat.lt_trans b7 b8)))))
    · exact Nat.ne_of_lt (show (L : Nat) < (fL : Nat) from Nat.lt_trans b2 (Nat.lt_trans (Nat.lt_succ_self L') (Nat.lt_trans (Nat.lt_succ_self (L' + 1)) (Nat.lt_trans b1 (Nat.lt_trans b5 (Nat.lt_trans b6 (Nat.lt_trans b7 b8)))))))
    · exact Nat.ne_of_lt (Nat.lt_trans (b4 p hp) (show (L' : Nat) < (fL : Nat) from Nat.lt_trans (Nat.lt_succ_self L') (Nat.lt_trans (Nat.lt_succ_self (L' + 1)) (Nat.lt_trans b1 (Nat.lt_trans b5 (Nat.lt_trans b6 (Nat.lt_trans b7 b8)))))))
  intro (dL : Nat) oD s8 hdL hfdL hoD S8
  have b9 : fL < dL := hfdL
  generalize hoL2 : ({ oLm with dict := some dL } : Obj) = oL2 at S8
  have S8 := S8.drop (news' := (dL, oD) :: (fL, oL2) :: (fR, oR) :: (cR, ocR) :: (L' + 1, c1) :: (L' + 2, o2) :: (pl, listOf [Value.int 0 tz].toArray 0) :: (86, oP2) :: (L, oL) :: rest) (by repeat (first | exact sub_nil | refine sub_cons (by repeat (first | exact List.Mem.head _ | apply List.Mem.tail)) ?_ | (intro p hp; repeat (first | exact hp | apply List.Mem.tail))))
  refine SeqQ.go ?_; refine r_cons ?_; refine wpAny_Return_some ?_; refine Call_ ?_
  refine r_globalE (by assumption) (by assumption) (gvnetrclex _) ?_; refine r_callK (by assumption) (by assumption) (by rfl) ?_
  refine args_cons ?_; refine r_nameE (by assumption) (by rfl) ?_; refine args_nil ?_; refine k_and (by assumption) (by assumption) ?_
  refine r_make (by assumption) B (k80_makes w) (k80_i w) (k56_fn w) ?_
  intro (X : Nat) (dX : Nat) s9 S9 hdX hX
  have b10 : dL < dX := hdX (dL, oD) (.head _)
  have b11 : dX < X := hX
  refine c_callN (binds := [("self", .ref X), ("fp", .ref fL)]) rfl rfl rfl rfl S9 B ?_ (fun L2 oL' s₁ hfL2 hLL2 hlt2 S₁ => ?_)
  · rw [depth_under_make]; show A.depth + 2 < _; exact dlt hr
  obtain ⟨L2, eL2⟩ : ∃ n : Nat, n = L2 := ⟨L2, rfl⟩
  subst eL2
  have hlt2 : ∀ p ∈ ((X, instObj 80 dX) :: (dX, dictOf [] 0) :: (dL, oD) :: (fL, oL2) :: (fR, oR) :: (cR, ocR) :: (L' + 1, c1) :: (L' + 2, o2) :: (pl, listOf [Value.int 0 tz].toArray 0) :: (86, oP2) :: (L, oL) :: rest : List (Addr × Obj)), p.1 < L2 := hlt2
  have b12 : X < L2 := hlt2 (X, instObj 80 dX) (.head _)
  have b13 : L' < L2 := hLL2
  have hL'X : L' ≠ dX := Ne.symm (S9.nw (dX, dictOf [] 0) (.tail _ (.head _))).2.1
  have S₁ : St g os h₀ L2 [("fp", .ref fL), ("self", .ref X)] ((dX, dictOf [] 0) :: (X, instObj 80 dX) :: (dL, oD) :: (fL, oL2) :: (fR, oR) :: (cR, ocR) :: (L' + 1, c1) :: (L' + 2, o2) :: (pl, listOf [Value.int 0 tz].toArray 0) :: (86, oP2) :: (L, oL) :: (L', oL') :: rest) s₁ := S₁.drop (by repeat (first | exact sub_nil | refine sub_cons (by repeat (first | exact List.Mem.head _ | apply List.Mem.tail)) ?_ | (intro p hp; repeat (first | exact hp | apply List.Mem.tail))))
  have hdXne : ∀ p ∈ ((X, instObj 80 dX) :: (dL, oD) :: (fL, oL2) :: (fR, oR) :: (cR, ocR) :: (L' + 1, c1) :: (L' + 2, o2) :: (pl, listOf [Value.int 0 tz].toArray 0) :: (86, oP2) :: (L, oL) :: (L', oL') :: rest : List (Addr × Obj)), p.1 ≠ dX := by
    intro p hp
    simp only [List.mem_cons] at hp
    rcases hp with rfl | rfl | rfl | rfl | rfl | rfl | rfl | rfl | rfl | rfl | rfl | hp
    · exact Nat.ne_of_gt (show (dX : Nat) < (X : Nat) from b11)
    · exact Nat.ne_of_lt (show (dL : Nat) < (dX : Nat) from b10)
    · exact Nat.ne_of_lt (show (fL : Nat) < (dX : Nat) from Nat.lt_trans b9 b10)
    · exact Nat.ne_of_lt (show (fR : Nat) < (dX : Nat) from Nat.lt_trans b7 (Nat.lt_trans b8 (Nat.lt_trans b9 b10)))
    · exact Nat.ne_of_lt (show (cR : Nat) < (dX : Nat) from Nat.lt_trans b6 (Nat.lt_trans b7 (Nat.lt_trans b8 (Nat.lt_trans b9 b10))))
    · exact Nat.ne_of_lt (show (L' + 1 : Nat) < (dX : Nat) from Nat.lt_trans (Nat.lt_succ_self (L' + 1)) (Nat.lt_trans b1 (Nat.lt_trans b5 (Nat.lt_trans b6 (Nat.lt_trans b7 (Nat.lt_trans b8 (Nat.lt_trans b9 b10)))))))
    · exact Nat.ne_of_lt (show (L' + 2 : Nat) < (dX : Nat) from Nat.lt_trans b1 (Nat.lt_trans b5 (Nat.lt_trans b6 (Nat.lt_trans b7 (Nat.lt_trans b8 (Nat.lt_trans b9 b10))))))
    · exact Nat.ne_of_lt (show (pl : Nat) < (dX : Nat) from Nat.lt_trans b5 (Nat.lt_trans b6 (Nat.lt_trans b7 (Nat.lt_trans b8 (Nat.lt_trans b9 b10)))))
    · exact Nat.ne_of_lt (show (86 : Nat) < (dX : Nat) from Nat.lt_trans b3 (Nat.lt_trans (Nat.lt_succ_self L') (Nat.lt_trans (Nat.lt_succ_self (L' + 1)) (Nat.lt_trans b1 (Nat.lt_trans b5 (Nat.lt_trans b6 (Nat.lt_trans b7 (Nat.lt_trans b8 (Nat.lt_trans b9 b10)))))))))
    · exact Nat.ne_of_lt (show (L : Nat) < (dX : Nat) from Nat.lt_trans b2 (Nat.lt_trans (Nat.lt_succ_self L') (Nat.lt_trans (Nat.lt_succ_self (L' + 1)) (Nat.lt_trans b1 (Nat.lt_trans b5 (Nat.lt_trans b6 (Nat.lt_trans b7 (Nat.lt_trans b8 (Nat.lt_trans b9 b10)))))))))
    · exact hL'X
    · exact Nat.ne_of_lt (Nat.lt_trans (b4 p hp) (show (L' : Nat) < (dX : Nat) from Nat.lt_trans (Nat.lt_succ_self L') (Nat.lt_trans (Nat.lt_succ_self (L' + 1)) (Nat.lt_trans b1 (Nat.lt_trans b5 (Nat.lt_trans b6 (Nat.lt_trans b7 (Nat.lt_trans b8 (Nat.lt_trans b9 b10)))))))))
  refine r_cons ?_
  refine plainObj_wpAny_Assign_Attribute ?_
  refine r_int (by assumption) ?_; intro _ _ _; refine r_name (by assumption) (by rfl) ?_
  rename_i tl _ _
  refine r_setOwn (C := 80) (dx := dX) (by assumption) B (by (repeat (first | exact List.Mem.head _ | apply List.Mem.tail))) (.head _) (k80_sa w) (k80_over w) (k80_t1 w) (k80_dict w) rfl (fun tk => .head hdXne) (by decide) ?_
  intro k1 s11 S11
  refine SeqQ.go ?_; refine r_cons ?_
  refine plainObj_wpAny_Assign_Attribute ?_
  refine r_name (by assumption) (by rfl) ?_; refine r_name (by assumption) (by rfl) ?_
  refine r_setOwn (C := 80) (dx := dX) S11 B (by (repeat (first | exact List.Mem.head _ | apply List.Mem.tail))) (.head _) (k80_sa w) (k80_over w) (k80_t2 w) (k80_dict w) rfl (fun tk => .head hdXne) (by show 1 ≤ 900; decide) ?_
  intro k2 s12 S12
  refine SeqQ.go ?_; refine r_cons ?_
  refine plainObj_wpAny_Assign_Attribute ?_
  refine r_str (by assumption) ?_; intro _ _ _; refine r_name (by assumption) (by rfl) ?_
  rename_i kw _ _
  rw [show (Str.ofString "\n\t\r " : Str) = T [10, 9, 13, 32] by decide +kernel]
  refine r_setOwn (C := 80) (dx := dX) (by assumption) B (by (repeat (first | exact List.Mem.head _ | apply List.Mem.tail))) (.head _) (k80_sa w) (k80_over w) (k80_t3 w) (k80_dict w) rfl (fun tk => .head hdXne) (by show 2 ≤ 900; decide) ?_
  intro k3 s13 S13
  refine SeqQ.go ?_; refine r_cons ?_
  refine plainObj_wpAny_Assign_Attribute ?_
  refine List_ ?_; refine args_nil ?_; refine r_newList (by assumption) (by simp) ?_; intro _ _ _ _; refine r_name (by assumption) (by rfl) ?_
  rename_i PB s14 hPB S14
  obtain ⟨PB, ePB⟩ : ∃ n : Nat, n = PB := ⟨PB, rfl⟩
  subst ePB
  have b14 : X < PB := hPB (X, instObj 80 dX) (by (repeat (first | exact List.Mem.head _ | apply List.Mem.tail)))
  refine r_setOwn (C := 80) (dx := dX) S14 B (by (repeat (first | exact List.Mem.head _ | apply List.Mem.tail))) (.tail _ (.head _)) (k80_sa w) (k80_over w) (k80_t4 w) (k80_dict w) rfl (fun tk => .tail (Nat.ne_of_gt (show (dX : Nat) < (PB : Nat) from Nat.lt_trans b11 b14)) (.head hdXne)) (by show 3 ≤ 900; decide) ?_
  intro k4 s15 S15
  refine SeqQ.go ?_; refine r_nil ?_; refine RetQ.next ?_
  refine ⟨rfl, ?_⟩
  show RetQ Q (.ret (.ref X)) s15
  refine RetQ.ret ?_
  obtain ⟨ps2, hps⟩ : ∃ ps, oP2 = tabObj ps := ⟨_, htab2.symm⟩
  subst hps
  obtain ⟨a, ha⟩ : ∃ a : LexA, a = ⟨X, dX, PB, fL, dL, fR, cR, L' + 1, L' + 2, pl, oL2, oD, oR, ocR, c1, o2, PyData.keyHash w.params "lineno", PyData.keyHash w.params "instream", PyData.keyHash w.params "whitespace", PyData.keyHash w.params "pushback", k1, k2, k3, k4, kw, 4⟩ := ⟨_, rfl⟩
  have S16 : St g os h₀ L2 [("fp", .ref fL), ("self", .ref X)] ((a.PB, listOf ([] : List Value).toArray 0) :: (a.dX, dictOf (lexEs a 1 tl) a.n) :: (a.X, instObj 80 a.dX) :: (a.dL, a.oD) :: (a.fL, a.oL) :: (a.fR, a.oR) :: (a.cR, a.oC) :: (a.cT, a.oT) :: (a.cP, a.oP) :: (a.pl, listOf [Value.int (0 : Nat) tz].toArray 0) :: (86, tabObj ps2) :: (L, oL) :: (L', oL') :: rest) s15 := by
    subst ha
    exact S15
  have aX : a.X = X := by rw [ha]
  have O : LexOk w a text := by
    subst ha
    exact { hR := ⟨_, _, _, _, _, _, docR, pmR, ctvR, vsR, tR, rfl, (congrArg Obj.data hoR).symm, hdR, hvR⟩
            hL := by show oL2.cls = _; rw [← hoL2]; exact hcls
            hL2 := by show oL2.dict = _; rw [← hoL2]
            hL3 := ⟨fdL, by show oL2.data = _; rw [← hoL2]; exact hfd⟩
            hD := hoD
            hT := ⟨t, hc1⟩
            hP := ho2
            ord := ⟨Nat.lt_succ_self _, b1, b5, b6, Nat.lt_trans b7 b8, b9, b10, b11, b14⟩
            len := hlen }
  have hcT : a.cT = L' + 1 := by rw [ha]
  have hne : ∀ p ∈ lexN a ⟨0, tz, 0, 1, tl, [], 0⟩ ((86, tabObj #[]) :: rest), p.1 ≠ L := by
    obtain ⟨r1, r2, r3, r4, r5, r6, r7, r8, r9⟩ := O.ord
    have r0 : L < a.cT := by rw [hcT]; exact Nat.lt_succ_of_lt b2
    intro p hp
    simp only [lexN, List.mem_cons] at hp
    rcases hp with rfl | rfl | rfl | rfl | rfl | rfl | rfl | rfl | rfl | rfl | rfl | hp
    · exact Nat.ne_of_gt (show L < a.pl from Nat.lt_trans r0 (Nat.lt_trans r1 r2))
    · exact Nat.ne_of_gt (show L < a.dX from Nat.lt_trans r0 (Nat.lt_trans r1 (Nat.lt_trans r2 (Nat.lt_trans r3 (Nat.lt_trans r4 (Nat.lt_trans r5 (Nat.lt_trans r6 r7)))))))
    · exact Nat.ne_of_gt (show L < a.PB from Nat.lt_trans r0 (Nat.lt_trans r1 (Nat.lt_trans r2 (Nat.lt_trans r3 (Nat.lt_trans r4 (Nat.lt_trans r5 (Nat.lt_trans r6 (Nat.lt_trans r7 (Nat.lt_trans r8 r9)))))))))
    · exact Nat.ne_of_gt (show L < a.X from Nat.lt_trans r0 (Nat.lt_trans r1 (Nat.lt_trans r2 (Nat.lt_trans r3 (Nat.lt_trans r4 (Nat.lt_trans r5 (Nat.lt_trans r6 (Nat.lt_trans r7 r8))))))))
    · exact Nat.ne_of_gt (show L < a.fL from Nat.lt_trans r0 (Nat.lt_trans r1 (Nat.lt_trans r2 (Nat.lt_trans r3 (Nat.lt_trans r4 r5)))))
    · exact Nat.ne_of_gt (show L < a.dL from Nat.lt_trans r0 (Nat.lt_trans r1 (Nat.lt_trans r2 (Nat.lt_trans r3 (Nat.lt_trans r4 (Nat.lt_trans r5 r6))))))
    · exact Nat.ne_of_gt (show L < a.fR from Nat.lt_trans r0 (Nat.lt_trans r1 (Nat.lt_trans r2 (Nat.lt_trans r3 r4))))
    · exact Nat.ne_of_gt (show L < a.cR from Nat.lt_trans r0 (Nat.lt_trans r1 (Nat.lt_trans r2 r3)))
    · exact Nat.ne_of_gt (show L < a.cT from r0)
    · exact Nat.ne_of_gt (show L < a.cP from Nat.lt_trans r0 r1)
    · exact (S.nw (86, tabObj #[]) (.head _)).2.1
    · exact (S.nw p (.tail _ hp)).2.1
  rw [← aX]
  refine h a ⟨0, tz, 0, 1, tl, [], 0⟩ ps2 s15 O rfl rfl rfl (fun p hp => ?_) (St.back S16 (by (repeat (first | exact List.Mem.head _ | apply List.Mem.tail))) hfL S.above (fun p hp => ⟨?_, ?_⟩))
  · rw [hcT]
    rcases List.mem_cons.mp hp with rfl | hp
    · exact Nat.lt_succ_of_lt b3
    · exact Nat.lt_add_right 1 (b4 p hp)
  · simp only [lexN, List.mem_cons] at hp ⊢
    rcases hp with hp | hp | hp | hp | hp | hp | hp | hp | hp | hp | hp | hp
    · exact .inr (.inr (.inr (.inr (.inr (.inr (.inr (.inr (.inr (.inl hp)))))))))
    · exact .inr (.inl hp)
    · exact .inl hp
    · exact .inr (.inr (.inl hp))
    · exact .inr (.inr (.inr (.inr (.inl hp))))
    · exact .inr (.inr (.inr (.inl hp)))
    · exact .inr (.inr (.inr (.inr (.inr (.inl hp)))))
    · exact .inr (.inr (.inr (.inr (.inr (.inr (.inl hp))))))
    · exact .inr (.inr (.inr (.inr (.inr (.inr (.inr (.inl hp)))))))
    · exact .inr (.inr (.inr (.inr (.inr (.inr (.inr (.inr (.inl hp))))))))
    · exact .inr (.inr (.inr (.inr (.inr (.inr (.inr (.inr (.inr (.inr (.inl hp))))))))))
    · exact .inr (.inr (.inr (.inr (.inr (.inr (.inr (.inr (.inr (.inr (.inr (.inr (.inr hp))))))))))))
  · simp only [lexN, List.mem_cons] at hp
    rcases hp with hp | hp | hp | hp | hp | hp | hp | hp | hp | hp | rfl | hp
    · exact hne p (by simp only [lexN, List.mem_cons]; exact .inl hp)
    · exact hne p (by simp only [lexN, List.mem_cons]; exact .inr (.inl hp))
    · exact hne p (by simp only [lexN, List.mem_cons]; exact .inr (.inr (.inl hp)))
    · exact hne p (by simp only [lexN, List.mem_cons]; exact .inr (.inr (.inr (.inl hp))))
    · exact hne p (by simp only [lexN, List.mem_cons]; exact .inr (.inr (.inr (.inr (.inl hp)))))
    · exact hne p (by simp only [lexN, List.mem_cons]; exact .inr (.inr (.inr (.inr (.inr (.inl hp))))))
    · exact hne p (by simp only [lexN, List.mem_cons]; exact .inr (.inr (.inr (.inr (.inr (.inr (.inl hp)))))))
    · exact hne p (by simp only [lexN, List.mem_cons]; exact .inr (.inr (.inr (.inr (.inr (.inr (.inr (.inl hp))))))))
    · exact hne p (by simp only [lexN, List.mem_cons]; exact .inr (.inr (.inr (.inr (.inr (.inr (.inr (.inr (.inl hp)))))))))
    · exact hne p (by simp only [lexN, List.mem_cons]; exact .inr (.inr (.inr (.inr (.inr (.inr (.inr (.inr (.inr (.inl hp))))))))))
    · exact (S.nw (86, tabObj #[]) (.head _)).2.1
    · exact (S.nw p (.tail _ hp)).2.1
end
end Mine
end
section
open PySem PySem.W PyProof.Rows PySem.Calls
set_option Elab.async false
set_option maxRecDepth 100000
set_option maxHeartbeats 1000000
set_option linter.unusedVariables false
namespace Mine
noncomputable def lSigns : List (List Nat) := [[97, 98], [97, 65], [40, 41], [34, 98], [65, 92], [32, 98]]
noncomputable def lSig (i : Nat) : List Nat := lSigns.getD i []
noncomputable def lNear (i : Nat) : Int := if lSig i = [97, 65] then 1 else 2
noncomputable def lRow (i b0 b1 b2 b3 : Nat) : List Nat := [(lSig i).getD b0 0, (lSig i).getD b1 0, (lSig i).getD b2 0, (lSig i).getD b3 0]
noncomputable def lMark (m : Nat) : List Nat := if m = 0 then [] else [34]
noncomputable def lWs : List Nat := [32, 10, 9, 13]
noncomputable def lWhite (t : Nat) : List Nat := lWs.drop t ++ lWs.take t
noncomputable def lText (row : List Nat) (m t : Nat) : List Nat := lMark m ++ spl [34, 92, 32] row ++ lMark m ++ lWhite t ++ lMark m ++ [101, 110, 100]
/-- the lexer's part -/
noncomputable def lexOkB (row : List Nat) (m t : Nat) : Bool :=
  let a := gt (lText row m t) 1
  let b := gt a.2.1 a.2.2
  let c := gt b.2.1 b.2.2
  a.1 == row && b.1 == [101, 110, 100] && c.1 == [] && c.2.2 == 2
noncomputable def sumL (l : List Int) : Int := l.sum
noncomputable def lAbove (words : List (List Nat)) (numbers : List Int) (word : List Nat) : List Int := ((List.range numbers.length).filter fun k => below word (words.getD k [])).map fun k => numbers.getD k 0
noncomputable def lNumber (words : List (List Nat)) (numbers : List Int) (word : List Nat) : Int := if numbers = [] then 1 else -(sumL (lAbove words numbers word))
noncomputable def lLess (word : List Nat) (k : Nat) : List Nat := word.take k ++ word.drop (k + 1)
noncomputable def lGrow (word : List Nat) (words : List (List Nat)) (k : Nat) : List (List Nat) := if words.contains (lLess word k) then words else words ++ [lLess word k]
noncomputable def lWant (W : List (List Nat × Int)) (word : List Nat) : Int := (-1) ^ (4 - word.length) * (pget W (spl [34, 92] word)).getD 0
/-- the loop's part -/
noncomputable def lRun (W : List (List Nat × Int)) : Nat → List (List Nat) → List Int → Bool
  | 0, _, _ => false
  | n + 1, words, numbers => if numbers.length < words.length then
      let word := words.getD numbers.length []
      let number := lNumber words numbers word
      number == lWant W word && lRun W n ((List.range word.length).foldl (lGrow word) words) (numbers ++ [number])
    else true
noncomputable def loopOkB (row : List Nat) : Bool := lRun (ways row) 17 [row] []
end Mine
end
section
open PySem PySem.W PyProof.Rows PySem.Calls
set_option Elab.async false
set_option maxRecDepth 100000
set_option maxHeartbeats 1000000
set_option linter.unusedVariables false
namespace Mine
section
variable {prog : Program} {w : World} {A : Around} {s : Shared} {env : Env}
/-- .. stored under a name -/
theorem r_compB {x y : Str} {px py : Pos} {elt iter : Expr} {ifs : List Expr} {scope : Scope} {cl : List (Str × Addr)} {pos spos : Pos} {Q : Flow → Shared → Prop}
    (hsw : swapsWith (.ListComp elt [⟨.Name x px, iter, ifs, 0⟩] scope pos) (some (.Name y py)) spos.line env = pure true)
    (hclos : closureFor scope env = pure cl) (hcell : ∀ y ∈ scope.names, y.2 ≠ .cell) (hkind : scope.kind = .function)
    (hnames : ∀ y ∈ scope.names, y.2 = .local → scope.names.lookup y.1 = some .local)
    (hs : ∀ x, foldedSetIterable iter env x = pure x)
    (h : wpAny (model prog w) A (eval iter env) (fun xv s₁ => wpAny (model prog w) A (pyIter xv) (CompQ prog w A env scope cl x px ifs elt
      (fun g os h₀ l C D ys ep news' => ∀ oC s', (∀ p ∈ news', p.1 ≠ C) → D ≠ C → St g os h₀ env.locals l ((C, oC) :: (D, listOf ys ep) :: news') s' →
        wpAny (model prog w) A (storeName env y (.ref D)) (fun _ s'' => ∃ l2 news2, St g os h₀ env.locals l2 ((C, oC) :: news2) s'' ∧ (∀ p ∈ news2, p.1 ≠ C) ∧ ∀ s3, St g os h₀ env.locals l2 news2 s3 → Q .next s3) NoE s')) NoE s₁) NoE s) :
    wpAny (model prog w) A (exec (.Assign [.Name y py] (.ListComp elt [⟨.Name x px, iter, ifs, 0⟩] scope pos) spos) env) Q NoE s := by
  rw [exec_Assign_Name_used _ _ _ _ hsw]
  refine wpAny_bind (wpAny_standAt (wpAny_bind ?_))
  show wpAny _ A (do let _ ← comprehension (.ListComp elt [⟨.Name x px, iter, ifs, 0⟩] scope pos) scope env _ (newList []) false (eval iter env) (some (assign (.Name y py) env))) _ _ s
  refine wpAny_bind (wpAny_mono (comp_core (use := some (assign (.Name y py) env)) (Q := fun _ s' => Q .next s') hclos hcell hkind hnames hs h fun g os h₀ l C D ys ep news' oL l' s' hF hf hab hne hD hneC hDC S => ?_)
    (fun _ s' hq => wpAny_pure (wpAny_pure hq)) fun _ _ e => e)
  obtain ⟨oC, hfC, S'⟩ := S.swap (news' := (D, listOf ys ep) :: news') (.head _) hf hab (fun p hp => ⟨.tail _ hp, by
    rcases List.mem_cons.mp hp with rfl | hp
    · exact hD
    · exact hne p hp⟩)
  show wpAny _ A (assign (.Name y py) env (.ref D)) _ _ _
  refine wpAny_assign_Name (wpAny_mono (hF oC s' hneC hDC S') (fun _ s'' h'' => ?_) fun _ _ e => e)
  obtain ⟨l2, news2, S2, hn2, hQ⟩ := h''
  obtain ⟨es, ep', m, hd, hk, hm, _⟩ := hfC
  refine ⟨m, ⟨oC, es, ep', (S2.nw _ (.head _)).1, hd, hk, hm⟩, fun h3 hs3 => ?_⟩
  exact hQ _ (S2.lose hn2 hs3.extBut s''.toks)
end
section
variable {prog : Program} {w : World} {A : Around} {E : Value → Shared → Prop} {s : Shared} {g : Array GenState} {os : OsState} {h₀ : Heap} {L D : Addr} {l : List (Str × Value)} {news : List (Addr × Obj)}
theorem r_sum {vs : List Value} {ns : List Int} {Q : Value → Shared → Prop} (hh : A.handled = none) (S : St g os h₀ L l news s) (hl : s.heap.IsList D vs.toArray) (hi : IntsAre vs ns) (h : ∀ t s', St g os h₀ L l news s' → Q (.int ns.sum t) s') :
    wpAny (model prog w) A (call (.builtin "sum") [.ref D]) Q E s := by
  obtain ⟨xs, hx⟩ := hi.allInts.items
  rw [hx] at hl
  have e : ns = xs.toList.map (·.1) := by
    rw [← nums_intItems, ← hx]; exact hi.numsOf.symm
  refine sum_intListG hh hl fun h' tk t' hk => ?_
  rw [preSum_eq, List.take_of_length_le (by simp), ← e]
  exact h _ _ (S.grow hk tk)
theorem r_sliceStep {value slice : Expr} {sc : Addr} {vs : List Value} {ns : List Int} {i k : Int} {ui uk : Tok} {ops : List Value} {Q : Value → Shared → Prop} (S : St g os h₀ L l news s) (hl : h₀.IsList sc vs.toArray) (hi : IntsAre vs ns) (hk : k ≠ 0) (hz : vs.length ≤ 1000)
    (h : ∀ D ys s', (∀ p ∈ news, p.1 < D) → IntsAre ys (pickNums ns (some i) none (some k)) → St g os h₀ L l ((D, listOf ys.toArray 0) :: news) s' → Q (.ref D) s')
    (hs : subscripted slice false (.ref sc) (.ref s.heap.objs.size) = operate ops (getItem (.ref sc) (.ref s.heap.objs.size)) := by with_unfolding_all rfl)
    (ht : ∀ r, letTemporaryGo value (.ref sc) r = pure () := by intro _; with_unfolding_all rfl) :
    wpAny (model prog w) A (subscriptTail value slice (.ref sc) (.ref s.heap.objs.size)) Q E { s with heap := s.heap.push { cls := .type "slice", data := .fields #[.int i ui, .none, .int k uk] } } := by
  obtain ⟨m, F, H⟩ := S.fr
  refine slice_list3 F S.nw (hl.at fun o e => F.keep sc o e) (.int i ui) .none (.int k uk) (by simpa using hk) (fun h' F' N' => ?_) hs ht (by rw [List.size_toArray, sizeLine_eq]; omega)
  refine h _ (slicePick vs.toArray (some i) none (some k)).toList _ (fun p hp => Nat.lt_succ_of_lt (S.lt hp)) (hi.pick (some i) none (some k)) ⟨⟨_, F', H⟩, N', S.gens, S.os⟩
theorem r_addBI {b : Bool} {x y : Int} {u : Tok} {Q : Value → Shared → Prop} (S : St g os h₀ L l news s) (hy : (if b = true then (1 : Int) else 0) + x = y) (h : ∀ t s', St g os h₀ L l news s' → Q (.int y t) s') : wpAny (model prog w) A (binaryOp .Add (.bool b) (.int x u)) Q E s :=
  IntBool.add_bool_int (by rw [hy]; exact h _ _ (S.toks _))
theorem r_isiBool {n : Int} {u : Tok} {Q : Value → Shared → Prop} (S : St g os h₀ L l news s) (h : ∀ s', St g os h₀ L l news s' → Q (.bool false) s') : wpAny (model prog w) A (call (.builtin "isinstance") [.int n u, .type "bool"]) Q E s :=
  IsiPair.int_bool (h _ (S.toks _))
theorem r_mulS {m : Nat} {t u : Tok} {Q : Value → Shared → Prop} (S : St g os h₀ L l news s) (hm : m < 2) (h : ∀ t s', St g os h₀ L l news s' → Q (.str (T (lMark m)) t) s') : wpAny (model prog w) A (binaryOp .Mult (.str (T [34]) t) (.int (m : Int) u)) Q E s := by
  have e : Txt.mul (T [34]) (m : Int) = T (lMark m) := by
    match m, hm with
    | 0, _ => rfl
    | 1, _ => rfl
  refine SB.mul (mulOk_of 1 1 (by rw [T_len]; decide) (by omega) (by omega) (by decide) (by decide)) fun t' k => ?_
  rw [e]
  exact h _ _ (S.toks _)
theorem r_powm1 {k : Nat} {t u : Tok} {Q : Value → Shared → Prop} (S : St g os h₀ L l news s) (hk : k ≤ 4) (h : ∀ t s', St g os h₀ L l news s' → Q (.int ((-1) ^ k) t) s') :
    wpAny (model prog w) A (binaryOp .Pow (.int (-1) t) (.int (k : Int) u)) Q E s := by
  have hnn : (k : Int) ≥ 0 := Int.natCast_nonneg _
  by_cases h0 : k = 0
  · subst h0
    exact PySem.AutoIntOps.pow_0 hnn rfl (h _ _ (S.toks _))
  · refine PySem.AutoIntOps.pow_2 hnn (by simpa using h0) (by decide) (by decide) ?_
    have e : (if (((k : Int) % 2 == 0) = true) then (1 : Int) else -1) = (-1) ^ k := by
      have : ∀ k : Nat, k ≤ 4 → (if (((k : Int) % 2 == 0) = true) then (1 : Int) else -1) = (-1) ^ k := by decide
      exact this k hk
    rw [e]
    exact h _ _ (S.toks _)
theorem r_neInts {a b : Addr} {vs us : List Value} {na nb : Nat} {ns ms : List Int} {Q : Value → Shared → Prop} (hu : A.units + 64 < cLine) (S : St g os h₀ L l news s) (ha : (a, listOf vs.toArray na) ∈ news) (hb : (b, listOf us.toArray nb) ∈ news) (hi : IntsAre vs ns) (hj : IntsAre us ms)
    (h : Q (.bool (!decide (ns = ms))) s) : wpAny (model prog w) A (compareOp .NotEq (.ref a) (.ref b)) Q E s :=
  ke_ne_ints (PySem.IsL.isList (n := na) (S.nw _ ha).1) (PySem.IsL.isList (n := nb) (S.nw _ hb).1) hi hj hu h
theorem r_eqFin {a b : Addr} {na nb : Nat} {x y : Str} {i : Int} {t1 t2 t3 u1 u2 u3 : Tok} {Q : Value → Shared → Prop} (hu : A.units < cLine) (S : St g os h₀ L l news s)
    (ha : (a, listOf [Value.str x t1, .str y t2, .int i t3].toArray na) ∈ news) (hb : (b, listOf [Value.str x u1, .str y u2, .int i u3].toArray nb) ∈ news)
    (h : Q (.bool true) s) : wpAny (model prog w) A (compareOp .Eq (.ref a) (.ref b)) Q E s := by
  refine PySem.SeqAt.eq_listAt (e := fun _ => true) (PySem.IsL.isList (n := na) (S.nw _ ha).1) (PySem.IsL.isList (n := nb) (S.nw _ hb).1) rfl hu (fun j h1 h2 => ?_) ?_
  · match j, h1, h2 with
    | 0, _, _ => have := (eqGives_str x x t1 u1).at A.in1 s; simpa using this
    | 1, _, _ => have := (eqGives_str y y t2 u2).at A.in1 s; simpa using this
    | 2, _, _ => have := (MeetsSeq.EqGives.int i i t3 u3).at A.in1 s; simpa using this
    | j + 3, h1, _ => exact absurd h1 (by simp)
  · exact h
end
end Mine
end
section
open PySem PySem.W PyProof.Rows PySem.Calls
set_option Elab.async false
set_option maxRecDepth 100000
set_option maxHeartbeats 1000000
set_option linter.unusedVariables false
namespace Mine
/-- the news of the loop -/
noncomputable abbrev lawN (a : LexA) (σ : LexS) (L Wd Nd D : Nat) (yw yn : List Value) (ew en : Nat) (oD o1 o2 o3 o4 o5 : Obj) (ps : Array Value) : List (Addr × Obj) :=
  lexN a σ [(L + 5, o5), (L + 4, o4), (L + 3, o3), (Wd, listOf yw.toArray ew), (Nd, listOf yn.toArray en), (D, oD), (L + 2, o2), (L + 1, o1), (86, tabObj ps)]
noncomputable abbrev lawM (a : LexA) (σ : LexS) (L Wd Nd D : Nat) (yw yn : List Value) (ew en : Nat) (oD o1 o2 o3 o4 o5 : Obj) (ps : Array Value) : List (Addr × Obj) :=
  (L + 5, o5) :: (L + 4, o4) :: (L + 3, o3) :: (Wd, listOf yw.toArray ew) :: (Nd, listOf yn.toArray en) :: (D, oD) :: (L + 2, o2) :: (L + 1, o1) :: (86, tabObj ps) :: lexN a σ []
theorem mem_lex {a : LexA} {σ : LexS} {R : List (Addr × Obj)} {p : Addr × Obj} : p ∈ lexN a σ R ↔ p ∈ R ++ lexN a σ [] := by
  show p ∈ lexN a σ [] ++ R ↔ _
  rw [List.mem_append, List.mem_append]; exact Or.comm
theorem St.toM {g : Array GenState} {os : OsState} {h₀ : Heap} {L₀ : Addr} {l : List (Str × Value)} {s : Shared} {a : LexA} {σ : LexS} {L Wd Nd D : Nat} {yw yn : List Value} {ew en : Nat} {oD o1 o2 o3 o4 o5 : Obj} {ps : Array Value}
    (S : St g os h₀ L₀ l (lawN a σ L Wd Nd D yw yn ew en oD o1 o2 o3 o4 o5 ps) s) : St g os h₀ L₀ l (lawM a σ L Wd Nd D yw yn ew en oD o1 o2 o3 o4 o5 ps) s := S.drop fun p hp => mem_lex.mpr hp
theorem St.toN {g : Array GenState} {os : OsState} {h₀ : Heap} {L₀ : Addr} {l : List (Str × Value)} {s : Shared} {a : LexA} {σ : LexS} {L Wd Nd D : Nat} {yw yn : List Value} {ew en : Nat} {oD o1 o2 o3 o4 o5 : Obj} {ps : Array Value}
    (S : St g os h₀ L₀ l (lawM a σ L Wd Nd D yw yn ew en oD o1 o2 o3 o4 o5 ps) s) : St g os h₀ L₀ l (lawN a σ L Wd Nd D yw yn ew en oD o1 o2 o3 o4 o5 ps) s := S.drop fun p hp => mem_lex.mp hp
section
variable {a : LexA} {σ : LexS} {L Wd Nd D : Nat} {yw yn : List Value} {ew en : Nat} {oD o1 o2 o3 o4 o5 : Obj} {ps : Array Value}
theorem lawR_ne_pl (ord : a.cT < a.cP ∧ a.cP < a.pl ∧ a.pl < a.cR ∧ a.cR < a.fR ∧ a.fR < a.fL ∧ a.fL < a.dL ∧ a.dL < a.dX ∧ a.dX < a.X ∧ a.X < a.PB) (hord : 86 < L ∧ L + 5 < a.cT ∧ a.PB < D ∧ D < Wd ∧ Wd < Nd) :
    ∀ p ∈ ([(L + 5, o5), (L + 4, o4), (L + 3, o3), (Wd, listOf yw.toArray ew), (Nd, listOf yn.toArray en), (D, oD), (L + 2, o2), (L + 1, o1), (86, tabObj ps)] : List (Addr × Obj)), p.1 ≠ a.pl := by
  have fcP : a.cP < a.pl := ord.2.1
  have fcT : a.cT < a.pl := Nat.lt_trans ord.1 fcP
  have fL_5 : L + 5 < a.pl := Nat.lt_trans hord.2.1 fcT
  have fL_4 : L + 4 < a.pl := Nat.lt_trans (Nat.lt_succ_self _) fL_5
  have fL_3 : L + 3 < a.pl := Nat.lt_trans (Nat.lt_succ_self _) fL_4
  have fL_2 : L + 2 < a.pl := Nat.lt_trans (Nat.lt_succ_self _) fL_3
  have fL_1 : L + 1 < a.pl := Nat.lt_trans (Nat.lt_succ_self _) fL_2
  have fL : L < a.pl := Nat.lt_trans (Nat.lt_succ_self _) fL_1
  have fe86 : 86 < a.pl := Nat.lt_trans hord.1 fL
  have fcR : a.pl < a.cR := ord.2.2.1
  have ffR : a.pl < a.fR := Nat.lt_trans fcR ord.2.2.2.1
  have ffL : a.pl < a.fL := Nat.lt_trans ffR ord.2.2.2.2.1
  have fdL : a.pl < a.dL := Nat.lt_trans ffL ord.2.2.2.2.2.1
  have fdX : a.pl < a.dX := Nat.lt_trans fdL ord.2.2.2.2.2.2.1
  have fX : a.pl < a.X := Nat.lt_trans fdX ord.2.2.2.2.2.2.2.1
  have fPB : a.pl < a.PB := Nat.lt_trans fX ord.2.2.2.2.2.2.2.2
  have fD : a.pl < D := Nat.lt_trans fPB hord.2.2.1
  have fWd : a.pl < Wd := Nat.lt_trans fD hord.2.2.2.1
  have fNd : a.pl < Nd := Nat.lt_trans fWd hord.2.2.2.2
  exact ne_cons (Nat.ne_of_lt fL_5) (ne_cons (Nat.ne_of_lt fL_4) (ne_cons (Nat.ne_of_lt fL_3) (ne_cons (Nat.ne_of_gt fWd) (ne_cons (Nat.ne_of_gt fNd) (ne_cons (Nat.ne_of_gt fD) (ne_cons (Nat.ne_of_lt fL_2) (ne_cons (Nat.ne_of_lt fL_1) (ne_cons (Nat.ne_of_lt fe86) (ne_nil)))))))))
theorem lawR_ne_dX (ord : a.cT < a.cP ∧ a.cP < a.pl ∧ a.pl < a.cR ∧ a.cR < a.fR ∧ a.fR < a.fL ∧ a.fL < a.dL ∧ a.dL < a.dX ∧ a.dX < a.X ∧ a.X < a.PB) (hord : 86 < L ∧ L + 5 < a.cT ∧ a.PB < D ∧ D < Wd ∧ Wd < Nd) :
    ∀ p ∈ ([(L + 5, o5), (L + 4, o4), (L + 3, o3), (Wd, listOf yw.toArray ew), (Nd, listOf yn.toArray en), (D, oD), (L + 2, o2), (L + 1, o1), (86, tabObj ps)] : List (Addr × Obj)), p.1 ≠ a.dX := by
  have fdL : a.dL < a.dX := ord.2.2.2.2.2.2.1
  have ffL : a.fL < a.dX := Nat.lt_trans ord.2.2.2.2.2.1 fdL
  have ffR : a.fR < a.dX := Nat.lt_trans ord.2.2.2.2.1 ffL
  have fcR : a.cR < a.dX := Nat.lt_trans ord.2.2.2.1 ffR
  have fpl : a.pl < a.dX := Nat.lt_trans ord.2.2.1 fcR
  have fcP : a.cP < a.dX := Nat.lt_trans ord.2.1 fpl
  have fcT : a.cT < a.dX := Nat.lt_trans ord.1 fcP
  have fL_5 : L + 5 < a.dX := Nat.lt_trans hord.2.1 fcT
  have fL_4 : L + 4 < a.dX := Nat.lt_trans (Nat.lt_succ_self _) fL_5
  have fL_3 : L + 3 < a.dX := Nat.lt_trans (Nat.lt_succ_self _) fL_4
  have fL_2 : L + 2 < a.dX := Nat.lt_trans (Nat.lt_succ_self _) fL_3
  have fL_1 : L + 1 < a.dX := Nat.lt_trans (Nat.lt_succ_self _) fL_2
  have fL : L < a.dX := Nat.lt_trans (Nat.lt_succ_self _) fL_1
  have fe86 : 86 < a.dX := Nat.lt_trans hord.1 fL
  have fX : a.dX < a.X := ord.2.2.2.2.2.2.2.1
  have fPB : a.dX < a.PB := Nat.lt_trans fX ord.2.2.2.2.2.2.2.2
  have fD : a.dX < D := Nat.lt_trans fPB hord.2.2.1
  have fWd : a.dX < Wd := Nat.lt_trans fD hord.2.2.2.1
  have fNd : a.dX < Nd := Nat.lt_trans fWd hord.2.2.2.2
  exact ne_cons (Nat.ne_of_lt fL_5) (ne_cons (Nat.ne_of_lt fL_4) (ne_cons (Nat.ne_of_lt fL_3) (ne_cons (Nat.ne_of_gt fWd) (ne_cons (Nat.ne_of_gt fNd) (ne_cons (Nat.ne_of_gt fD) (ne_cons (Nat.ne_of_lt fL_2) (ne_cons (Nat.ne_of_lt fL_1) (ne_cons (Nat.ne_of_lt fe86) (ne_nil)))))))))
theorem lawR_ne_PB (ord : a.cT < a.cP ∧ a.cP < a.pl ∧ a.pl < a.cR ∧ a.cR < a.fR ∧ a.fR < a.fL ∧ a.fL < a.dL ∧ a.dL < a.dX ∧ a.dX < a.X ∧ a.X < a.PB) (hord : 86 < L ∧ L + 5 < a.cT ∧ a.PB < D ∧ D < Wd ∧ Wd < Nd) :
    ∀ p ∈ ([(L + 5, o5), (L + 4, o4), (L + 3, o3), (Wd, listOf yw.toArray ew), (Nd, listOf yn.toArray en), (D, oD), (L + 2, o2), (L + 1, o1), (86, tabObj ps)] : List (Addr × Obj)), p.1 ≠ a.PB := by
  have fX : a.X < a.PB := ord.2.2.2.2.2.2.2.2
  have fdX : a.dX < a.PB := Nat.lt_trans ord.2.2.2.2.2.2.2.1 fX
  have fdL : a.dL < a.PB := Nat.lt_trans ord.2.2.2.2.2.2.1 fdX
  have ffL : a.fL < a.PB := Nat.lt_trans ord.2.2.2.2.2.1 fdL
  have ffR : a.fR < a.PB := Nat.lt_trans ord.2.2.2.2.1 ffL
  have fcR : a.cR < a.PB := Nat.lt_trans ord.2.2.2.1 ffR
  have fpl : a.pl < a.PB := Nat.lt_trans ord.2.2.1 fcR
  have fcP : a.cP < a.PB := Nat.lt_trans ord.2.1 fpl
  have fcT : a.cT < a.PB := Nat.lt_trans ord.1 fcP
  have fL_5 : L + 5 < a.PB := Nat.lt_trans hord.2.1 fcT
  have fL_4 : L + 4 < a.PB := Nat.lt_trans (Nat.lt_succ_self _) fL_5
  have fL_3 : L + 3 < a.PB := Nat.lt_trans (Nat.lt_succ_self _) fL_4
  have fL_2 : L + 2 < a.PB := Nat.lt_trans (Nat.lt_succ_self _) fL_3
  have fL_1 : L + 1 < a.PB := Nat.lt_trans (Nat.lt_succ_self _) fL_2
  have fL : L < a.PB := Nat.lt_trans (Nat.lt_succ_self _) fL_1
  have fe86 : 86 < a.PB := Nat.lt_trans hord.1 fL
  have fD : a.PB < D := hord.2.2.1
  have fWd : a.PB < Wd := Nat.lt_trans fD hord.2.2.2.1
  have fNd : a.PB < Nd := Nat.lt_trans fWd hord.2.2.2.2
  exact ne_cons (Nat.ne_of_lt fL_5) (ne_cons (Nat.ne_of_lt fL_4) (ne_cons (Nat.ne_of_lt fL_3) (ne_cons (Nat.ne_of_gt fWd) (ne_cons (Nat.ne_of_gt fNd) (ne_cons (Nat.ne_of_gt fD) (ne_cons (Nat.ne_of_lt fL_2) (ne_cons (Nat.ne_of_lt fL_1) (ne_cons (Nat.ne_of_lt fe86) (ne_nil)))))))))
theorem lawR_ne (ord : a.cT < a.cP ∧ a.cP < a.pl ∧ a.pl < a.cR ∧ a.cR < a.fR ∧ a.fR < a.fL ∧ a.fL < a.dL ∧ a.dL < a.dX ∧ a.dX < a.X ∧ a.X < a.PB) (hord : 86 < L ∧ L + 5 < a.cT ∧ a.PB < D ∧ D < Wd ∧ Wd < Nd) :
    ∀ p ∈ ([(L + 5, o5), (L + 4, o4), (L + 3, o3), (Wd, listOf yw.toArray ew), (Nd, listOf yn.toArray en), (D, oD), (L + 2, o2), (L + 1, o1), (86, tabObj ps)] : List (Addr × Obj)), p.1 ≠ a.pl ∧ p.1 ≠ a.dX ∧ p.1 ≠ a.PB := fun p hp => ⟨lawR_ne_pl ord hord p hp, lawR_ne_dX ord hord p hp, lawR_ne_PB ord hord p hp⟩
theorem lawM_ne5 (ord : a.cT < a.cP ∧ a.cP < a.pl ∧ a.pl < a.cR ∧ a.cR < a.fR ∧ a.fR < a.fL ∧ a.fL < a.dL ∧ a.dL < a.dX ∧ a.dX < a.X ∧ a.X < a.PB) (hord : 86 < L ∧ L + 5 < a.cT ∧ a.PB < D ∧ D < Wd ∧ Wd < Nd) :
    ∀ p ∈ ((L + 4, o4) :: (L + 3, o3) :: (Wd, listOf yw.toArray ew) :: (Nd, listOf yn.toArray en) :: (D, oD) :: (L + 2, o2) :: (L + 1, o1) :: (86, tabObj ps) :: lexN a σ [] : List (Addr × Obj)), p.1 ≠ L + 5 := by
  have fL_4 : L + 4 < L + 5 := (Nat.lt_succ_self _)
  have fL_3 : L + 3 < L + 5 := Nat.lt_trans (Nat.lt_succ_self _) fL_4
  have fL_2 : L + 2 < L + 5 := Nat.lt_trans (Nat.lt_succ_self _) fL_3
  have fL_1 : L + 1 < L + 5 := Nat.lt_trans (Nat.lt_succ_self _) fL_2
  have fL : L < L + 5 := Nat.lt_trans (Nat.lt_succ_self _) fL_1
  have fe86 : 86 < L + 5 := Nat.lt_trans hord.1 fL
  have fcT : L + 5 < a.cT := hord.2.1
  have fcP : L + 5 < a.cP := Nat.lt_trans fcT ord.1
  have fpl : L + 5 < a.pl := Nat.lt_trans fcP ord.2.1
  have fcR : L + 5 < a.cR := Nat.lt_trans fpl ord.2.2.1
  have ffR : L + 5 < a.fR := Nat.lt_trans fcR ord.2.2.2.1
  have ffL : L + 5 < a.fL := Nat.lt_trans ffR ord.2.2.2.2.1
  have fdL : L + 5 < a.dL := Nat.lt_trans ffL ord.2.2.2.2.2.1
  have fdX : L + 5 < a.dX := Nat.lt_trans fdL ord.2.2.2.2.2.2.1
  have fX : L + 5 < a.X := Nat.lt_trans fdX ord.2.2.2.2.2.2.2.1
  have fPB : L + 5 < a.PB := Nat.lt_trans fX ord.2.2.2.2.2.2.2.2
  have fD : L + 5 < D := Nat.lt_trans fPB hord.2.2.1
  have fWd : L + 5 < Wd := Nat.lt_trans fD hord.2.2.2.1
  have fNd : L + 5 < Nd := Nat.lt_trans fWd hord.2.2.2.2
  exact ne_cons (Nat.ne_of_lt fL_4) (ne_cons (Nat.ne_of_lt fL_3) (ne_cons (Nat.ne_of_gt fWd) (ne_cons (Nat.ne_of_gt fNd) (ne_cons (Nat.ne_of_gt fD) (ne_cons (Nat.ne_of_lt fL_2) (ne_cons (Nat.ne_of_lt fL_1) (ne_cons (Nat.ne_of_lt fe86) (ne_cons (Nat.ne_of_gt fpl) (ne_cons (Nat.ne_of_gt fdX) (ne_cons (Nat.ne_of_gt fPB) (ne_cons (Nat.ne_of_gt fX) (ne_cons (Nat.ne_of_gt ffL) (ne_cons (Nat.ne_of_gt fdL) (ne_cons (Nat.ne_of_gt ffR) (ne_cons (Nat.ne_of_gt fcR) (ne_cons (Nat.ne_of_gt fcT) (ne_cons (Nat.ne_of_gt fcP) (ne_nil))))))))))))))))))
theorem lawM_neW (ord : a.cT < a.cP ∧ a.cP < a.pl ∧ a.pl < a.cR ∧ a.cR < a.fR ∧ a.fR < a.fL ∧ a.fL < a.dL ∧ a.dL < a.dX ∧ a.dX < a.X ∧ a.X < a.PB) (hord : 86 < L ∧ L + 5 < a.cT ∧ a.PB < D ∧ D < Wd ∧ Wd < Nd) :
    ∀ p ∈ ((Nd, listOf yn.toArray en) :: (D, oD) :: (L + 2, o2) :: (L + 1, o1) :: (86, tabObj ps) :: lexN a σ [] : List (Addr × Obj)), p.1 ≠ Wd := by
  have fD : D < Wd := hord.2.2.2.1
  have fPB : a.PB < Wd := Nat.lt_trans hord.2.2.1 fD
  have fX : a.X < Wd := Nat.lt_trans ord.2.2.2.2.2.2.2.2 fPB
  have fdX : a.dX < Wd := Nat.lt_trans ord.2.2.2.2.2.2.2.1 fX
  have fdL : a.dL < Wd := Nat.lt_trans ord.2.2.2.2.2.2.1 fdX
  have ffL : a.fL < Wd := Nat.lt_trans ord.2.2.2.2.2.1 fdL
  have ffR : a.fR < Wd := Nat.lt_trans ord.2.2.2.2.1 ffL
  have fcR : a.cR < Wd := Nat.lt_trans ord.2.2.2.1 ffR
  have fpl : a.pl < Wd := Nat.lt_trans ord.2.2.1 fcR
  have fcP : a.cP < Wd := Nat.lt_trans ord.2.1 fpl
  have fcT : a.cT < Wd := Nat.lt_trans ord.1 fcP
  have fL_5 : L + 5 < Wd := Nat.lt_trans hord.2.1 fcT
  have fL_4 : L + 4 < Wd := Nat.lt_trans (Nat.lt_succ_self _) fL_5
  have fL_3 : L + 3 < Wd := Nat.lt_trans (Nat.lt_succ_self _) fL_4
  have fL_2 : L + 2 < Wd := Nat.lt_trans (Nat.lt_succ_self _) fL_3
  have fL_1 : L + 1 < Wd := Nat.lt_trans (Nat.lt_succ_self _) fL_2
  have fL : L < Wd := Nat.lt_trans (Nat.lt_succ_self _) fL_1
  have fe86 : 86 < Wd := Nat.lt_trans hord.1 fL
  have fNd : Wd < Nd := hord.2.2.2.2
  exact ne_cons (Nat.ne_of_gt fNd) (ne_cons (Nat.ne_of_lt fD) (ne_cons (Nat.ne_of_lt fL_2) (ne_cons (Nat.ne_of_lt fL_1) (ne_cons (Nat.ne_of_lt fe86) (ne_cons (Nat.ne_of_lt fpl) (ne_cons (Nat.ne_of_lt fdX) (ne_cons (Nat.ne_of_lt fPB) (ne_cons (Nat.ne_of_lt fX) (ne_cons (Nat.ne_of_lt ffL) (ne_cons (Nat.ne_of_lt fdL) (ne_cons (Nat.ne_of_lt ffR) (ne_cons (Nat.ne_of_lt fcR) (ne_cons (Nat.ne_of_lt fcT) (ne_cons (Nat.ne_of_lt fcP) (ne_nil)))))))))))))))
theorem lawM_neN (ord : a.cT < a.cP ∧ a.cP < a.pl ∧ a.pl < a.cR ∧ a.cR < a.fR ∧ a.fR < a.fL ∧ a.fL < a.dL ∧ a.dL < a.dX ∧ a.dX < a.X ∧ a.X < a.PB) (hord : 86 < L ∧ L + 5 < a.cT ∧ a.PB < D ∧ D < Wd ∧ Wd < Nd) :
    ∀ p ∈ ((D, oD) :: (L + 2, o2) :: (L + 1, o1) :: (86, tabObj ps) :: lexN a σ [] : List (Addr × Obj)), p.1 ≠ Nd := by
  have fWd : Wd < Nd := hord.2.2.2.2
  have fD : D < Nd := Nat.lt_trans hord.2.2.2.1 fWd
  have fPB : a.PB < Nd := Nat.lt_trans hord.2.2.1 fD
  have fX : a.X < Nd := Nat.lt_trans ord.2.2.2.2.2.2.2.2 fPB
  have fdX : a.dX < Nd := Nat.lt_trans ord.2.2.2.2.2.2.2.1 fX
  have fdL : a.dL < Nd := Nat.lt_trans ord.2.2.2.2.2.2.1 fdX
  have ffL : a.fL < Nd := Nat.lt_trans ord.2.2.2.2.2.1 fdL
  have ffR : a.fR < Nd := Nat.lt_trans ord.2.2.2.2.1 ffL
  have fcR : a.cR < Nd := Nat.lt_trans ord.2.2.2.1 ffR
  have fpl : a.pl < Nd := Nat.lt_trans ord.2.2.1 fcR
  have fcP : a.cP < Nd := Nat.lt_trans ord.2.1 fpl
  have fcT : a.cT < Nd := Nat.lt_trans ord.1 fcP
  have fL_5 : L + 5 < Nd := Nat.lt_trans hord.2.1 fcT
  have fL_4 : L + 4 < Nd := Nat.lt_trans (Nat.lt_succ_self _) fL_5
  have fL_3 : L + 3 < Nd := Nat.lt_trans (Nat.lt_succ_self _) fL_4
  have fL_2 : L + 2 < Nd := Nat.lt_trans (Nat.lt_succ_self _) fL_3
  have fL_1 : L + 1 < Nd := Nat.lt_trans (Nat.lt_succ_self _) fL_2
  have fL : L < Nd := Nat.lt_trans (Nat.lt_succ_self _) fL_1
  have fe86 : 86 < Nd := Nat.lt_trans hord.1 fL
  exact ne_cons (Nat.ne_of_lt fD) (ne_cons (Nat.ne_of_lt fL_2) (ne_cons (Nat.ne_of_lt fL_1) (ne_cons (Nat.ne_of_lt fe86) (ne_cons (Nat.ne_of_lt fpl) (ne_cons (Nat.ne_of_lt fdX) (ne_cons (Nat.ne_of_lt fPB) (ne_cons (Nat.ne_of_lt fX) (ne_cons (Nat.ne_of_lt ffL) (ne_cons (Nat.ne_of_lt fdL) (ne_cons (Nat.ne_of_lt ffR) (ne_cons (Nat.ne_of_lt fcR) (ne_cons (Nat.ne_of_lt fcT) (ne_cons (Nat.ne_of_lt fcP) (ne_nil))))))))))))))
theorem lawM_lt {σ' : LexS} {yw' : List Value} {ew' : Nat} {I : Addr} (h : ∀ p ∈ lawM a σ L Wd Nd D yw yn ew en oD o1 o2 o3 o4 o5 ps, p.1 < I) : ∀ p ∈ lawM a σ' L Wd Nd D yw' yn ew' en oD o1 o2 o3 o4 o5 ps, p.1 ≠ I := by
  intro p hp
  refine Nat.ne_of_lt ?_
  have hW := h (Wd, listOf yw.toArray ew) (by simp only [lawM, List.mem_cons, true_or, or_true])
  have h1 := h (a.pl, listOf [Value.int (σ.p : Int) σ.tp].toArray σ.ep) (by simp only [lawM, lexN, List.mem_cons, true_or, or_true])
  have h2 := h (a.dX, dictOf (lexEs a σ.ln σ.tl) a.n) (by simp only [lawM, lexN, List.mem_cons, true_or, or_true])
  have h3 := h (a.PB, listOf σ.pb.toArray σ.pe) (by simp only [lawM, lexN, List.mem_cons, true_or, or_true])
  simp only [lawM, lexN, List.mem_cons, List.not_mem_nil, or_false] at hp
  rcases hp with hp | hp | hp | rfl | hp | hp | hp | hp | hp | rfl | rfl | rfl | hp
  · exact h p (by simp only [lawM, List.mem_cons, hp, true_or, or_true])
  · exact h p (by simp only [lawM, List.mem_cons, hp, true_or, or_true])
  · exact h p (by simp only [lawM, List.mem_cons, hp, true_or, or_true])
  · exact hW
  · exact h p (by simp only [lawM, List.mem_cons, hp, true_or, or_true])
  · exact h p (by simp only [lawM, List.mem_cons, hp, true_or, or_true])
  · exact h p (by simp only [lawM, List.mem_cons, hp, true_or, or_true])
  · exact h p (by simp only [lawM, List.mem_cons, hp, true_or, or_true])
  · exact h p (by simp only [lawM, List.mem_cons, hp, true_or, or_true])
  · exact h1
  · exact h2
  · exact h3
  · exact h p (by simp only [lawM, lexN, List.mem_cons, List.not_mem_nil, or_false, hp, or_true])
theorem lawM_neN5 (ord : a.cT < a.cP ∧ a.cP < a.pl ∧ a.pl < a.cR ∧ a.cR < a.fR ∧ a.fR < a.fL ∧ a.fL < a.dL ∧ a.dL < a.dX ∧ a.dX < a.X ∧ a.X < a.PB) (hord : 86 < L ∧ L + 5 < a.cT ∧ a.PB < D ∧ D < Wd ∧ Wd < Nd) :
    L + 5 ≠ Nd ∧ L + 4 ≠ Nd ∧ L + 3 ≠ Nd ∧ Wd ≠ Nd ∧ L + 5 ≠ Wd ∧ L + 4 ≠ Wd ∧ L + 3 ≠ Wd := by
  have fD : D < Wd := hord.2.2.2.1
  have fPB : a.PB < Wd := Nat.lt_trans hord.2.2.1 fD
  have fX : a.X < Wd := Nat.lt_trans ord.2.2.2.2.2.2.2.2 fPB
  have fdX : a.dX < Wd := Nat.lt_trans ord.2.2.2.2.2.2.2.1 fX
  have fdL : a.dL < Wd := Nat.lt_trans ord.2.2.2.2.2.2.1 fdX
  have ffL : a.fL < Wd := Nat.lt_trans ord.2.2.2.2.2.1 fdL
  have ffR : a.fR < Wd := Nat.lt_trans ord.2.2.2.2.1 ffL
  have fcR : a.cR < Wd := Nat.lt_trans ord.2.2.2.1 ffR
  have fpl : a.pl < Wd := Nat.lt_trans ord.2.2.1 fcR
  have fcP : a.cP < Wd := Nat.lt_trans ord.2.1 fpl
  have fcT : a.cT < Wd := Nat.lt_trans ord.1 fcP
  have fL_5 : L + 5 < Wd := Nat.lt_trans hord.2.1 fcT
  have fL_4 : L + 4 < Wd := Nat.lt_trans (Nat.lt_succ_self _) fL_5
  have fL_3 : L + 3 < Wd := Nat.lt_trans (Nat.lt_succ_self _) fL_4
  have fL_2 : L + 2 < Wd := Nat.lt_trans (Nat.lt_succ_self _) fL_3
  have fL_1 : L + 1 < Wd := Nat.lt_trans (Nat.lt_succ_self _) fL_2
  have fL : L < Wd := Nat.lt_trans (Nat.lt_succ_self _) fL_1
  have fe86 : 86 < Wd := Nat.lt_trans hord.1 fL
  have fNd : Wd < Nd := hord.2.2.2.2
  exact ⟨Nat.ne_of_lt (Nat.lt_trans fL_5 hord.2.2.2.2), Nat.ne_of_lt (Nat.lt_trans fL_4 hord.2.2.2.2), Nat.ne_of_lt (Nat.lt_trans fL_3 hord.2.2.2.2), Nat.ne_of_lt hord.2.2.2.2, Nat.ne_of_lt fL_5, Nat.ne_of_lt fL_4, Nat.ne_of_lt fL_3⟩
end
noncomputable def WordOk (x : List Nat) : Prop := x.length ≤ 4 ∧ ∀ c ∈ x, c < 128
section
variable {w : World} {A : Around} {s : Shared} {g : Array GenState} {os : OsState} {h₀ : Heap} {a : LexA} {text row : List Nat}
set_option maxHeartbeats 16000000 in
theorem law_tail {L Wd Nd D : Nat} {l : List (Str × Value)} {σ : LexS} {qn : Str} {fa : Addr} {cd : Value} {fname qual : Str} {params : Arguments} {body : List Stmt} {fscope : Scope} {dV kV doc pm cdv ct oc : Value} {an od : Option Addr} {osl : Array (Option Value)} {o1 o2 o3 o4 o5 oD : Obj} {yw : List Value} {ew : Nat} {ps : Array Value} {kvs : List (Str × Value)} {W : List (List Nat × Int)} {v5 : Option Value} {Q : Value → Shared → Prop}
    (ho : (KK w).lookup 113 = some ⟨oc, od, .func (fnOf fname qual params body fscope dV kV doc pm an cdv ct), osl⟩)
    (O : LexOk w a text) (S : St g os h₀ L l (lawN a σ L Wd Nd D yw [] ew 0 oD o1 o2 o3 o4 o5 ps) s) (hl1 : l.lookup ("lexer" : Str) = some (.ref a.X)) (hl2 : l.lookup ("ways" : Str) = some (.ref D))
    (hc5 : o5.data = .cell v5) (hc4 : o4.data = .cell (some (.ref Nd))) (hc3 : o3.data = .cell (some (.ref Wd))) (hD : oD.IsDictOf (PySem.strKind PySem.Challenge.pw_rw0052_01 w) kvs) (hK : DRel W kvs) (hDs : (D == sysModules) = false)
    (hyw : Rel2 TV [row] yw) (hrow : WordOk row) (hσp : text.drop σ.p = text) (hσl : σ.ln = 1) (hσb : σ.pb = [])
    (hlex : let x := gt text 1; let b := gt x.2.1 x.2.2; let c := gt b.2.1 b.2.2; x.1 = row ∧ b.1 = [101, 110, 100] ∧ c.1 = [] ∧ c.2.2 = 2) (hrun : lRun W 17 [row] [] = true)
    (hord : 86 < L ∧ L + 5 < a.cT ∧ a.PB < D ∧ D < Wd ∧ Wd < Nd) (B : Base w h₀) (hh : A.handled = none) (hr : A.depth + 60 < recursionLimit) (hu : A.units + 200 < cLine)
    (h : ∀ s' l' news', (86, tabObj ps) ∈ news' → St g os h₀ L l' news' s' → Q (.bool true) s') :
    wpAny (MM w) A (execs (body.drop 12) (envX qn fscope L fa cd (cellsFrom (L + 1) fscope.names []))) (RetQ Q) NoE s := by
  have e1 : (KK w).lookup 113 = some ⟨_, _, .func (fnOf _ _ _ _ _ _ _ _ _ _ _ _), _⟩ := rfl
  rw [e1] at ho
  cases ho
  obtain ⟨r1, r2, r3, r4, r5, r6, r7, r8, r9⟩ := O.ord
  obtain ⟨w1, w2, w3, w4, w5, w6, w7⟩ := lawM_neN5 O.ord hord
  obtain ⟨q1, q2, q3, q4, q5⟩ := hord
  show wpAny _ _ (execs (_ :: _) _) _ _ _
  refine r_cons ?_
  refine r_whileX (fun n s' => ∃ (words : List (List Nat)) (numbers : List Int) (σ' : LexS) (yw yn : List Value) (ew en : Nat) (o5 : Obj) (v5 : Option Value) (l' : List (Str × Value)),
      St g os h₀ L l' (lawN a σ' L Wd Nd D yw yn ew en oD o1 o2 o3 o4 o5 ps) s' ∧ o5.data = .cell v5 ∧ l'.lookup ("lexer" : Str) = some (.ref a.X) ∧ l'.lookup ("ways" : Str) = some (.ref D) ∧ Rel2 TV words yw ∧ Rel2 IV numbers yn ∧
      lRun W n words numbers = true ∧ words.length + 4 * n ≤ 69 ∧ numbers.length ≤ words.length ∧ 0 < words.length ∧ (∀ x ∈ words, WordOk x) ∧
      (numbers = [] → words = [row] ∧ text.drop σ'.p = text ∧ σ'.ln = 1 ∧ σ'.pb = []) ∧ (numbers ≠ [] → text.drop σ'.p = (gt text 1).2.1 ∧ σ'.ln = (gt text 1).2.2 ∧ Rel2 TV (words.drop numbers.length) σ'.pb))
    (fun s' => ∃ (σ' : LexS) (yw yn : List Value) (ew en : Nat) (o5 : Obj) (l' : List (Str × Value)),
      St g os h₀ L l' (lawN a σ' L Wd Nd D yw yn ew en oD o1 o2 o3 o4 o5 ps) s' ∧ l'.lookup ("lexer" : Str) = some (.ref a.X) ∧ text.drop σ'.p = (gt text 1).2.1 ∧ σ'.ln = (gt text 1).2.2 ∧ σ'.pb = [])
    ?_ 17 ⟨[row], [], σ, yw, [], ew, 0, o5, v5, l, S, hc5, hl1, hl2, hyw, .nil, hrun, Nat.le_refl _, by simp, by simp, fun x hx => by rcases List.mem_singleton.mp hx with rfl; exact hrow, fun _ => ⟨rfl, hσp, hσl, hσb⟩, fun hne => absurd rfl hne⟩ ?_
  · rintro n Tv Xv hTv hXv s1 ⟨words, numbers, σ', yw, yn, ew, en, o5, v5, l', S1, hc5, hl1, hl2, hW, hN, hrun, hlen, hnw, hw0, hok, hz, hnz⟩
    cases n with
    | zero => simp [lRun] at hrun
    | succ n =>
    have S1 := St.re (l' := [("lexer", .ref a.X), ("ways", .ref D)]) S1 ⟨hl1, hl2, trivial⟩
    have S1 := S1.toM
    have hyl := hW.length
    have hnl := hN.length
    refine wpAny_isTrue_Compare1 ?_; refine Call_ ?_
    refine r_builtinE (by assumption) (by assumption) (by rfl) (by first | reg3_boot | boot_fact) (by decide) ?_
    refine PyProof.Rows.callWith_builtin1 ?_; refine args_cons ?_
    refine r_cellE (by assumption) (by rfl) (by first | assumption | (repeat (first | exact List.Mem.head _ | apply List.Mem.tail))) (by assumption) ?_
    refine args_nil ?_
    have hynM : Nat.le yn.length 1000000 := by show yn.length ≤ 1000000; (clear hc4 hc3 hDs hσp hσl hσb hlex hh hr hu e1 r1 r2 r3 r4 r5 r6 r7 r8 r9 w1 w2 w3 w4 w5 w6 w7 q1 q2 q3 q4 q5 hc5 hl1 hl2 hrun; omega)
    refine r_lenL S1 (its := yn.toArray) (by (repeat (first | exact List.Mem.head _ | apply List.Mem.tail))) (by rw [List.size_toArray]; exact hynM) ?_
    intro t2 s2 S2
    refine Call_ ?_; refine r_builtinE (by assumption) (by assumption) (by rfl) (by first | reg3_boot | boot_fact) (by decide) ?_
    refine PyProof.Rows.callWith_builtin1 ?_; refine args_cons ?_
    refine r_cellE (by assumption) (by rfl) (by first | assumption | (repeat (first | exact List.Mem.head _ | apply List.Mem.tail))) (by assumption) ?_
    refine args_nil ?_
    refine r_lenL S2 (its := yw.toArray) (by (repeat (first | exact List.Mem.head _ | apply List.Mem.tail))) (by rw [List.size_toArray]; (clear hc4 hc3 hDs hσp hσl hσb hlex hh hr hu e1 r1 r2 r3 r4 r5 r6 r7 r8 r9 w1 w2 w3 w4 w5 w6 w7 q1 q2 q3 q4 q5 hc5 hl1 hl2 hnw hw0 hrun hnl; omega)) ?_
    intro t3 s3 S3
    rw [List.size_toArray, List.size_toArray, hyl, hnl]
    refine PyProof.Rows.lt_int ?_; refine wpAny_truthy_bool ?_
    have hstep := hrun
    rw [lRun] at hstep
    refine Br.split (fun e => ?_) (fun e => ?_)
    · have e' : numbers.length < words.length := by simp at e; (clear hc4 hc3 hDs hσp hσl hσb hlex hh hr hu e1 r1 r2 r3 r4 r5 r6 r7 r8 r9 w1 w2 w3 w4 w5 w6 w7 q1 q2 q3 q4 q5 hc5 hl1 hl2 hnw hw0 hrun hlen hyl hnl hstep; omega)
      rw [if_pos e'] at hstep
      have hstep := Bool.and_eq_true_iff.mp hstep
      have hnum : lNumber words numbers (words.getD numbers.length []) = lWant W (words.getD numbers.length []) := by simpa using hstep.1
      have hrun' := hstep.2
      generalize hword : words.getD numbers.length [] = word at *
      have hmem : words[numbers.length]? = some word := by rw [← hword, List.getD_eq_getElem?_getD, List.getElem?_eq_getElem e']; rfl
      have hwok : WordOk word := hok _ (List.mem_of_getElem? hmem)
      have tok : ∀ (A' : Around), A'.handled = none → A'.depth + 20 < recursionLimit → ∀ Q' : Value → Shared → Prop, (∀ v σ2 s', TV word v → text.drop σ2.p = (gt text 1).2.1 → σ2.ln = (gt text 1).2.2 → Rel2 TV (words.drop (numbers.length + 1)) σ2.pb →
          St g os h₀ L [("lexer", .ref a.X), ("ways", .ref D)] (lawN a σ2 L Wd Nd D yw yn ew en oD o1 o2 o3 o4 o5 ps) s' → Q' v s') → wpAny (MM w) A' (call (.ref 70) [.ref a.X]) Q' NoE s3 := by
        intro A' hh' hr' Q' hQ
        by_cases hz0 : numbers = []
        · obtain ⟨z1, z2, z3, z4⟩ := hz hz0
          refine tok_read O hh' z4 S3.toN B hr' (fun p hp => ⟨(lawR_ne O.ord ⟨q1, q2, q3, q4, q5⟩ p hp).1, (lawR_ne O.ord ⟨q1, q2, q3, q4, q5⟩ p hp).2.1⟩) ?_
          intro t σ2 s' u1 u2 u3 u4 S'
          rw [z2, z3] at u1 u2 ⊢
          have hwr : word = row := by
            subst hz0
            rw [z1] at hmem
            simpa using hmem.symm
          refine hQ _ σ2 s' ⟨t, by rw [hlex.1, hwr]⟩ u1 u2 ?_ S'
          rw [u3, z1, hz0]; exact .nil
        · obtain ⟨k1, k2, k3⟩ := hnz hz0
          have hdrop : words.drop numbers.length = word :: words.drop (numbers.length + 1) := by
            rw [List.drop_eq_getElem_cons e']
            rw [List.getElem?_eq_getElem e'] at hmem
            rw [Option.some.inj hmem]
          rw [hdrop] at k3
          obtain ⟨v, qs, hv, hqs, hpb⟩ : ∃ v qs, TV word v ∧ Rel2 TV (words.drop (numbers.length + 1)) qs ∧ σ'.pb = v :: qs := by
            generalize σ'.pb = pb at k3
            cases k3 with
            | cons h1 h2 => exact ⟨_, _, h1, h2, rfl⟩
          refine tok_pop O hpb (by have := hqs.length; rw [List.length_drop] at this; (clear hc4 hc3 hDs hσp hσl hσb hlex hh hr hu e1 r1 r2 r3 r4 r5 r6 r7 r8 r9 w1 w2 w3 w4 w5 w6 w7 q1 q2 q3 q4 q5 hc5 hl1 hl2 hnw hrun e hword hstep hnum hrun' hmem hh' hr' hz0 k1 k2 hdrop hpb; omega)) S3.toN B hr' (fun p hp => (lawR_ne O.ord ⟨q1, q2, q3, q4, q5⟩ p hp).2.2) ?_
          intro s' S'
          exact hQ v { σ' with pb := qs, pe := σ'.pe + 1 } s' hv k1 k2 hqs S'
      refine r_cons ?_; refine wpAny_Assign_Name ?_; refine MethodCall_ ?_; refine r_nameE (by assumption) (by rfl) ?_
      refine r_method (C := 80) S3.toN B (by (repeat (first | exact List.Mem.head _ | apply List.Mem.tail))) (by (repeat (first | exact List.Mem.head _ | apply List.Mem.tail))) (k80_get w _) (k80_m2 w) (k70_fn w) rfl ?_
      refine callWith_K0 (S3.base B).k rfl ?_
      refine tok _ hh (by show A.depth + 20 < _; exact dlt hr) _ ?_
      rintro v σ2 s4 ⟨tw, rfl⟩ hp2 hln2 hpb2 S4
      refine r_storeCellE S4.toM rfl hc5 (.head (lawM_ne5 O.ord ⟨q1, q2, q3, q4, q5⟩)) ?_
      intro s5 S5
      generalize hb5 : ({ o5 with data := .cell (some (.str (T word) tw)) } : Obj) = o5' at S5
      have hc5' : o5'.data = .cell (some (.str (T word) tw)) := by rw [← hb5]
      clear hb5 hc5 S4
      have hWz : (T word).length ≤ 1000000 := by rw [T_len]; have := hwok.1; (clear hc5 hc4 hc3 hDs hσp hσl hσb hlex hh hr hu e1 r1 r2 r3 r4 r5 r6 r7 r8 r9 w1 w2 w3 w4 w5 w6 w7 q1 q2 q3 q4 q5 hl1 hl2 hnw hw0 hrun hlen hyl hnl e e' hword hstep hnum hrun' hmem hp2 hln2 hc5'; omega)
      obtain ⟨vw, hvw, tw2, rfl⟩ := hW.get _ _ hmem
      refine SeqQ.go ?_; refine r_cons ?_; refine r_if ?_; refine wpAny_isTrue_Compare1 ?_
      refine r_cellE (by assumption) (by rfl) (by first | assumption | (repeat (first | exact List.Mem.head _ | apply List.Mem.tail))) (by assumption) ?_
      refine Subscript_ ?_
      refine r_cellE (by assumption) (by rfl) (by first | assumption | (repeat (first | exact List.Mem.head _ | apply List.Mem.tail))) (by assumption) ?_
      refine Call_ ?_; refine r_builtinE (by assumption) (by assumption) (by rfl) (by first | reg3_boot | boot_fact) (by decide) ?_
      refine PyProof.Rows.callWith_builtin1 ?_; refine args_cons ?_
      refine r_cellE (by assumption) (by rfl) (by first | assumption | (repeat (first | exact List.Mem.head _ | apply List.Mem.tail))) (by assumption) ?_
      refine args_nil ?_
      refine r_lenL S5 (its := yn.toArray) (by (repeat (first | exact List.Mem.head _ | apply List.Mem.tail))) (by rw [List.size_toArray]; exact hynM) ?_
      intro t6 s6 S6
      rw [List.size_toArray, hnl]
      refine r_item (vs := yw) S6 (by (repeat (first | exact List.Mem.head _ | apply List.Mem.tail))) (by rw [Int.toNat_natCast]; exact hvw) (by (clear hc5 hc4 hc3 hDs hσp hσl hσb hlex hh hr hu e1 r1 r2 r3 r4 r5 r6 r7 r8 r9 w1 w2 w3 w4 w5 w6 w7 q1 q2 q3 q4 q5 hl1 hl2 hnw hw0 hrun hlen hyl e e' hword hstep hnum hrun' hmem hp2 hln2 hc5' hWz hvw; omega)) (by (clear hc5 hc4 hc3 hDs hσp hσl hσb hlex hh hr hu e1 r1 r2 r3 r4 r5 r6 r7 r8 r9 w1 w2 w3 w4 w5 w6 w7 q1 q2 q3 q4 q5 hl1 hl2 hnw hrun e hword hstep hnum hrun' hmem hp2 hln2 hc5' hWz hvw; omega)) ?_
      refine PyProof.Rows.ne_str ?_
      rw [show (T word != T word) = false by simp]
      refine wpAny_truthy_bool ?_
      refine Br.f ?_
      refine r_nil ?_; refine SeqQ.go ?_; refine r_cons ?_
      have hN40 : ∀ x ∈ words, x.length ≤ 40 ∧ ∀ c ∈ x, c < 128 := fun x hx => ⟨by have := (hok x hx).1; (clear hc5 hc4 hc3 hDs hσp hσl hσb hlex hh hr hu e1 r1 r2 r3 r4 r5 r6 r7 r8 r9 w1 w2 w3 w4 w5 w6 w7 q1 q2 q3 q4 q5 hl1 hl2 hnw hw0 hrun hlen hyl hnl e e' hword hstep hnum hrun' hmem hp2 hln2 hc5' hWz hvw; omega), (hok x hx).2⟩
      refine r_compB (cl := [("words", L + 3), ("word", L + 5), ("numbers", L + 4)]) rfl rfl (by decide) rfl (by decide) (fun _ => rfl) ?_
      refine Call_ ?_; refine r_builtinE (by assumption) (by assumption) (by rfl) (by first | reg3_boot | boot_fact) (by decide) ?_
      refine PyProof.Rows.callWith_type1 ?_; refine args_cons ?_; refine Call_ ?_
      refine r_builtinE (by assumption) (by assumption) (by rfl) (by first | reg3_boot | boot_fact) (by decide) ?_
      refine PyProof.Rows.callWith_builtin1 ?_; refine args_cons ?_
      refine r_cellE (by assumption) (by rfl) (by first | assumption | (repeat (first | exact List.Mem.head _ | apply List.Mem.tail))) (by assumption) ?_
      refine args_nil ?_
      refine r_lenL S6 (its := yn.toArray) (by (repeat (first | exact List.Mem.head _ | apply List.Mem.tail))) (by rw [List.size_toArray]; exact hynM) ?_
      intro t7 s7 S7
      rw [List.size_toArray, hnl]
      refine args_nil ?_; refine r_range1 (by assumption) ?_; intro _ _ _ _ _ _ _
      refine r_iterRange (by assumption) (.head _) (small_one (by (clear hc5 hc4 hc3 hDs hσp hσl hσb hlex hh hr hu e1 r1 r2 r3 r4 r5 r6 r7 r8 r9 w1 w2 w3 w4 w5 w6 w7 q1 q2 q3 q4 q5 hl1 hl2 hnw hw0 hrun hlen hyl hnl e e' hword hstep hnum hrun' hmem hp2 hln2 hc5' hWz hvw; omega)) (by (clear hc5 hc4 hc3 hDs hσp hσl hσb hlex hh hr hu e1 r1 r2 r3 r4 r5 r6 r7 r8 r9 w1 w2 w3 w4 w5 w6 w7 q1 q2 q3 q4 q5 hl1 hl2 hnw hw0 hrun hlen hyl hnl e e' hword hstep hnum hrun' hmem hp2 hln2 hc5' hWz hvw; omega)) (by (clear hc5 hc4 hc3 hDs hσp hσl hσb hlex hh hr hu e1 r1 r2 r3 r4 r5 r6 r7 r8 r9 w1 w2 w3 w4 w5 w6 w7 q1 q2 q3 q4 q5 hl1 hl2 hnw hw0 hrun hlen hyl e e' hword hstep hnum hrun' hmem hp2 hln2 hc5' hWz hvw; omega)) (by (clear hc5 hc4 hc3 hDs hσp hσl hσb hlex hh hr hu e1 r1 r2 r3 r4 r5 r6 r7 r8 r9 w1 w2 w3 w4 w5 w6 w7 q1 q2 q3 q4 q5 hl1 hl2 hnw hrun e hword hstep hnum hrun' hmem hp2 hln2 hc5' hWz hvw; omega))) ?_
      intro I8 s8 hI8 S8
      have eR8 : Builtin.Range.rangeSize 0 (numbers.length : Int) 1 = numbers.length := by rw [rangeSize_nat]; simp
      rw [eR8] at S8
      apply comp_iter (Iter.range (by exact hh) I8 numbers.length) (R := fun k v => IV (numbers.getD k 0) v) (p := fun k => below word (words.getD k [])) (hL₀ := rfl) (S := S8) (hI := by show rangeIt _ _ _ = rangeIt _ _ _; simp) (hd := hI8) (hlen := by rw [List.length_range]; (clear hc5 hc4 hc3 hDs hσp hσl hσb hlex hh hr hu e1 r1 r2 r3 r4 r5 r6 r7 r8 r9 w1 w2 w3 w4 w5 w6 w7 q1 q2 q3 q4 q5 hl1 hl2 hnw hrun e hword hstep hnum hrun' hmem hp2 hln2 hc5' hWz hvw; omega)) (hk := rfl) (hx := rfl)
      · rintro j k v C' N' l'' s₃ hk ⟨tk, rfl⟩ hN' S9 Q hQ
        have hka : k < numbers.length := by
          have := List.mem_of_getElem? hk
          simpa using this
        have hkw : k < words.length := by (clear hc5 hc4 hc3 hDs hσp hσl hσb hlex hh hr hu e1 r1 r2 r3 r4 r5 r6 r7 r8 r9 w1 w2 w3 w4 w5 w6 w7 q1 q2 q3 q4 q5 hl1 hl2 hnw hw0 hrun hlen e hword hstep hnum hrun' hmem hp2 hln2 hc5' hWz hvw hk; omega)
        have hm3 : (L + 3, o3) ∈ N' := hN' _ (by (repeat (first | exact List.Mem.head _ | apply List.Mem.tail)))
        have hm5 : (L + 5, o5') ∈ N' := hN' _ (by (repeat (first | exact List.Mem.head _ | apply List.Mem.tail)))
        have hmW : (Wd, listOf yw.toArray ew) ∈ N' := hN' _ (by (repeat (first | exact List.Mem.head _ | apply List.Mem.tail)))
        have hwk : words[k]? = some (words.getD k []) := by rw [List.getD_eq_getElem?_getD, List.getElem?_eq_getElem hkw]; rfl
        obtain ⟨vk, hvk, tvk, rfl⟩ := hW.get _ _ hwk
        have hwkok := hN40 _ (List.mem_of_getElem? hwk)
        refine ifs_one ?_
        refine isTrue_plain ?_; refine Call_ ?_; refine r_globalE (by assumption) (by assumption) (gvlawbelow _) ?_
        refine r_callK (by assumption) (by assumption) (by rfl) ?_; refine args_cons ?_
        refine r_cellE (by assumption) (by rfl) (by first | assumption | (repeat (first | exact List.Mem.head _ | apply List.Mem.tail))) (by assumption) ?_
        refine args_cons ?_; refine Subscript_ ?_
        refine r_cellE (by assumption) (by rfl) (by first | assumption | (repeat (first | exact List.Mem.head _ | apply List.Mem.tail))) (by assumption) ?_
        refine r_nameE (by assumption) (by rfl) ?_
        refine r_item (vs := yw) (by assumption) hmW (by rw [Int.toNat_natCast]; exact hvk) (by (clear hc5 hc4 hc3 hDs hσp hσl hσb hlex hh hr hu e1 r1 r2 r3 r4 r5 r6 r7 r8 r9 w1 w2 w3 w4 w5 w6 w7 q1 q2 q3 q4 q5 hl1 hl2 hnw hw0 hrun hlen hyl hnl e e' hword hstep hnum hrun' hmem hp2 hln2 hc5' hWz hvw eR8 hk hka hkw hwk hvk hwkok; omega)) (by (clear hc5 hc4 hc3 hDs hσp hσl hσb hlex hh hr hu e1 r1 r2 r3 r4 r5 r6 r7 r8 r9 w1 w2 w3 w4 w5 w6 w7 q1 q2 q3 q4 q5 hl1 hl2 hnw hrun e hword hstep hnum hrun' hmem hp2 hln2 hc5' hWz hvw hk hkw hwk hvk hwkok; omega)) ?_
        refine args_nil ?_; refine k_and (by assumption) (by assumption) ?_
        refine below_spec ?_ hh ?_ hwok.2 hwkok.2 (by have := hwok.1; (clear hc5 hc4 hc3 hDs hσp hσl hσb hlex hh hr hu e1 r1 r2 r3 r4 r5 r6 r7 r8 r9 w1 w2 w3 w4 w5 w6 w7 q1 q2 q3 q4 q5 hl1 hl2 hnw hw0 hrun hlen hyl hnl e e' hword hstep hnum hrun' hmem hp2 hln2 hc5' hWz hvw eR8 hk hka hkw hwk hvk hwkok; omega)) hwkok.1 ?_
        · exact St.base (by assumption) B
        · show A.depth + 10 < _; exact dlt hr
        intro s10 G10
        refine wpAny_truthy_bool ?_
        exact hQ _ (St.after (by assumption) G10)
      · rintro j k v C' N' l'' s₃ hk ⟨tk, rfl⟩ _ hN' S9 Q hQ
        have hka : k < numbers.length := by
          have := List.mem_of_getElem? hk
          simpa using this
        have hm4 : (L + 4, o4) ∈ N' := hN' _ (by (repeat (first | exact List.Mem.head _ | apply List.Mem.tail)))
        have hmN : (Nd, listOf yn.toArray en) ∈ N' := hN' _ (by (repeat (first | exact List.Mem.head _ | apply List.Mem.tail)))
        have hnk : numbers[k]? = some (numbers.getD k 0) := by rw [List.getD_eq_getElem?_getD, List.getElem?_eq_getElem hka]; rfl
        obtain ⟨vk, hvk, tvk, rfl⟩ := hN.get _ _ hnk
        refine Subscript_ ?_
        refine r_cellE (by assumption) (by rfl) (by first | assumption | (repeat (first | exact List.Mem.head _ | apply List.Mem.tail))) (by assumption) ?_
        refine r_nameE (by assumption) (by rfl) ?_
        refine r_item (vs := yn) S9 hmN (by rw [Int.toNat_natCast]; exact hvk) (by (clear hc5 hc4 hc3 hDs hσp hσl hσb hlex hh hr hu e1 r1 r2 r3 r4 r5 r6 r7 r8 r9 w1 w2 w3 w4 w5 w6 w7 q1 q2 q3 q4 q5 hl1 hl2 hnw hw0 hrun hlen hyl hnl e e' hword hstep hnum hrun' hmem hp2 hln2 hc5' hWz hvw eR8 hk hka hnk hvk; omega)) (by (clear hc5 hc4 hc3 hDs hσp hσl hσb hlex hh hr hu e1 r1 r2 r3 r4 r5 r6 r7 r8 r9 w1 w2 w3 w4 w5 w6 w7 q1 q2 q3 q4 q5 hl1 hl2 hnw hrun e hword hstep hnum hrun' hmem hp2 hln2 hc5' hWz hvw hk hnk hvk; omega)) ?_
        exact hQ _ _ ⟨tvk, rfl⟩ S9
      intro C9 Ab ya ea hRa hAb _ oC s9 hCne hAC S9
      have hRa' : Rel2 IV (lAbove words numbers word) ya.toList := Rel2.map2 (f := fun k => numbers.getD k 0) (R' := IV) (fun _ _ h => h) hRa
      have hAbLt : ∀ p ∈ lawM a σ2 L Wd Nd D yw yn ew en oD o1 o2 o3 o4 o5' ps, p.1 < Ab := fun p hp => hAb p (.tail _ hp)
      refine r_storeE S9 ?_
      intro s10 S10
      refine ⟨_, _, S10, ?_, ?_⟩
      · intro p hp
        rcases List.mem_cons.mp hp with rfl | hp
        · exact hAC
        · exact hCne p hp
      intro s11 S11
      refine SeqQ.go (r_cons (wpAny_Assign_Name ?_))
      refine wpAny_mono (Q := fun v s' => ∃ t, v = .int (lNumber words numbers word) t ∧ St g os h₀ L [("lexer", .ref a.X), ("ways", .ref D)] (lawM a σ2 L Wd Nd D yw yn ew en oD o1 o2 o3 o4 o5' ps) s') ?_ (fun v s12 hJ => ?_) (fun _ _ e => e)
      · have hAb' : ∀ {l' N s'}, St g os h₀ L l' N s' → (∀ p ∈ lawM a σ2 L Wd Nd D yw yn ew en oD o1 o2 o3 o4 o5' ps, p ∈ N) → l'.lookup ("lexer" : Str) = some (.ref a.X) → l'.lookup ("ways" : Str) = some (.ref D) → St g os h₀ L [("lexer", .ref a.X), ("ways", .ref D)] (lawM a σ2 L Wd Nd D yw yn ew en oD o1 o2 o3 o4 o5' ps) s' := fun S' hN h1 h2 => St.re (S'.drop hN) ⟨h1, h2, trivial⟩
        refine r_ifexp ?_
        refine wpAny_isTrue_Compare1 ?_
        refine r_cellE (by assumption) (by rfl) (by first | assumption | (repeat (first | exact List.Mem.head _ | apply List.Mem.tail))) (by assumption) ?_
        refine List_ ?_; refine args_nil ?_; refine r_newList (by assumption) (by simp) ?_; intro _ _ _ _
        rename_i E12 s12 hE S12
        refine r_neInts (vs := yn) (us := []) (na := en) (nb := 0) (by (clear hc5 hc4 hc3 hDs hσp hσl hσb hlex hh hr e1 r1 r2 r3 r4 r5 r6 r7 r8 r9 w1 w2 w3 w4 w5 w6 w7 q1 q2 q3 q4 q5 hl1 hl2 hnw hw0 hrun hlen hyl hnl e e' hword hstep hnum hrun' hmem hp2 hln2 hc5' hWz hvw eR8 hAC; omega)) S12 (by (repeat (first | exact List.Mem.head _ | apply List.Mem.tail))) (.head _) hN.ints .nil ?_
        refine wpAny_truthy_bool ?_
        refine Br.split (fun e8 => ?_) (fun e8 => ?_)
        · have e8' : numbers ≠ [] := by simpa using e8
          refine UnaryOp_ ?_; refine Call_ ?_
          refine r_builtinE (by assumption) (by assumption) (by rfl) (by first | reg3_boot | boot_fact) (by decide) ?_
          refine PyProof.Rows.callWith_builtin1 ?_; refine args_cons ?_; refine r_nameE (by assumption) (by rfl) ?_; refine args_nil ?_
          refine r_sum (vs := ya.toList) (D := Ab) hh S12 ?_ hRa'.ints ?_
          · have := PySem.IsL.isList (n := ea) (S12.nw (Ab, listOf ya ea) (by (repeat (first | exact List.Mem.head _ | apply List.Mem.tail)))).1
            simpa using this
          intro t13 s13 S13
          refine r_neg (by assumption) ?_; intro _ _ _
          rename_i t14 s14 S14
          exact ⟨t14, by simp only [lNumber, if_neg e8', sumL], hAb' S14 (fun p hp => .tail _ (.tail _ (.tail _ hp))) rfl rfl⟩
        · have e8' : numbers = [] := by simpa using e8
          refine r_int (by assumption) ?_; intro _ _ _
          rename_i t14 s14 S14
          exact ⟨t14, by simp only [lNumber, if_pos e8'], hAb' S14 (fun p hp => .tail _ (.tail _ (.tail _ hp))) rfl rfl⟩
      obtain ⟨tn, rfl, S12⟩ := hJ
      refine r_storeE (by assumption) ?_; intro _ _; refine SeqQ.go ?_; refine r_cons ?_; refine r_if ?_; refine wpAny_isTrue_Compare1 ?_
      refine r_nameE (by assumption) (by rfl) ?_; refine wpAny_BinOp ?_; refine wpAny_BinOp ?_; refine UnaryOp_ ?_
      refine r_int (by assumption) ?_; intro _ _ _; refine r_neg (by assumption) ?_; intro _ _ _; refine wpAny_BinOp ?_
      refine r_int (by assumption) ?_; intro _ _ _; refine Call_ ?_
      refine r_builtinE (by assumption) (by assumption) (by rfl) (by first | reg3_boot | boot_fact) (by decide) ?_
      refine PyProof.Rows.callWith_builtin1 ?_; refine args_cons ?_
      refine r_cellE (by assumption) (by rfl) (by first | assumption | (repeat (first | exact List.Mem.head _ | apply List.Mem.tail))) (by assumption) ?_
      refine args_nil ?_; refine r_lenS (by assumption) (by assumption) ?_; intro _ _ _; refine r_sub (by assumption) ?_; intro _ _ _
      rw [T_len, show (4 - (word.length : Int)) = ((4 - word.length : Nat) : Int) by have := hwok.1; (clear hc5 hc4 hc3 hDs hσp hσl hσb hlex hh hr hu e1 r1 r2 r3 r4 r5 r6 r7 r8 r9 w1 w2 w3 w4 w5 w6 w7 q1 q2 q3 q4 q5 hl1 hl2 hnw hw0 hrun hlen hyl hnl e e' hword hstep hnum hrun' hmem hp2 hln2 hc5' hWz hvw eR8 hAC; omega)]
      refine r_powm1 (by assumption) (by (clear hc5 hc4 hc3 hDs hσp hσl hσb hlex hh hr hu e1 r1 r2 r3 r4 r5 r6 r7 r8 r9 w1 w2 w3 w4 w5 w6 w7 q1 q2 q3 q4 q5 hl1 hl2 hnw hw0 hrun hlen hyl hnl e e' hword hstep hnum hrun' hmem hp2 hln2 hc5' hWz hvw eR8 hAC; omega)) ?_
      intro t13 s13 S13
      refine MethodCall_ ?_; refine r_nameE (by assumption) (by rfl) ?_
      refine r_dictGetM S13 (by (repeat (first | exact List.Mem.head _ | apply List.Mem.tail))) hD ?_
      refine PyProof.Rows.callWith_method1 ?_; refine args_cons ?_; refine Call_ ?_
      refine r_globalE (by assumption) (by assumption) (gvlawspelled _) ?_; refine r_callK (by assumption) (by assumption) (by rfl) ?_
      refine args_cons ?_
      refine r_cellE (by assumption) (by rfl) (by first | assumption | (repeat (first | exact List.Mem.head _ | apply List.Mem.tail))) (by assumption) ?_
      refine args_cons ?_; refine r_str (by assumption) ?_; intro _ _ _; refine args_nil ?_; refine k_and (by assumption) (by assumption) ?_
      rw [sl_eq]
      refine spelled_spec ?_ hh ?_ hwok.2 (by have := hwok.1; (clear hc5 hc4 hc3 hDs hσp hσl hσb hlex hh hr hu e1 r1 r2 r3 r4 r5 r6 r7 r8 r9 w1 w2 w3 w4 w5 w6 w7 q1 q2 q3 q4 q5 hl1 hl2 hnw hw0 hrun hlen hyl hnl e e' hword hstep hnum hrun' hmem hp2 hln2 hc5' hWz hvw eR8 hAC; omega)) ?_
      · exact St.base (by assumption) B
      · show A.depth + 10 < _; exact dlt hr
      intro t14 s14 G14
      have S14 := St.after (by assumption) G14
      refine args_cons ?_; refine r_int (by assumption) ?_; intro _ _ _; refine args_nil ?_; change wpAny _ _ (call _ [_, _, _]) _ _ _
      rename_i t15 s15 S15
      refine r_dictGet S15 (by (repeat (first | exact List.Mem.head _ | apply List.Mem.tail))) hD hDs ?_
      intro s16 S16
      have hget : ∃ tg, ((valueAt kvs (T (spl [34, 92] word))).getD (.int 0 t15)) = .int ((pget W (spl [34, 92] word)).getD 0) tg := by
        have := hK.get (spl [34, 92] word)
        cases hp : pget W (spl [34, 92] word) with
        | none => rw [hp] at this; rw [this]; exact ⟨_, rfl⟩
        | some n => rw [hp] at this; obtain ⟨tn, e⟩ := this; rw [e]; exact ⟨_, rfl⟩
      obtain ⟨tg, etg⟩ := hget
      rw [etg]
      have hbits : ∀ k : Nat, k ≤ 4 → Builtin.Int.intBits ((-1) ^ k) ≤ 64 := by decide +kernel
      refine r_mul S16 (IntMulOk.of_left (hbits _ (by (clear hc5 hc4 hc3 hDs hσp hσl hσb hlex hh hr hu e1 r1 r2 r3 r4 r5 r6 r7 r8 r9 w1 w2 w3 w4 w5 w6 w7 q1 q2 q3 q4 q5 hl1 hl2 hnw hw0 hrun hlen hyl hnl e e' hword hstep hnum hrun' hmem hp2 hln2 hc5' hWz hvw eR8 hAC etg; omega)))) ?_
      intro t17 s17 S17
      rw [show ((-1 : Int) ^ (4 - word.length) * (pget W (spl [34, 92] word)).getD 0) = lWant W word from rfl, hnum]
      refine PyProof.Rows.ne_int ?_; refine wpAny_truthy_bool ?_
      refine Br.neg (by simp) ?_
      refine r_nil ?_; refine SeqQ.go ?_; refine r_cons ?_; refine wpAny_Expr ?_; refine MethodCall_ ?_
      refine r_cellE (by assumption) (by rfl) (by first | assumption | (repeat (first | exact List.Mem.head _ | apply List.Mem.tail))) (by assumption) ?_
      refine r_getAppend (its := yn.toArray) S17 (by (repeat (first | exact List.Mem.head _ | apply List.Mem.tail))) ?_
      refine PyProof.Rows.callWith_method1 ?_; refine args_cons ?_; refine r_nameE (by assumption) (by rfl) ?_; refine args_nil ?_
      change wpAny _ _ (call _ [_, _]) _ _ _
      refine r_append (its := yn.toArray) S17 (.tail w1 (.tail w2 (.tail w3 (.tail w4 (.head (lawM_neN O.ord ⟨q1, q2, q3, q4, q5⟩)))))) (by rw [List.size_toArray]; exact hynM) ?_
      intro s18 S18
      rw [List.push_toArray] at S18
      have hN' : Rel2 IV (numbers ++ [lNumber words numbers word]) (yn ++ [Value.int (lNumber words numbers word) tn]) := hN.snoc ⟨tn, rfl⟩
      have hlw : word.length ≤ 4 := hwok.1
      refine SeqQ.go ?_; refine r_cons ?_
      refine r_for ?_
      refine Call_ ?_; refine r_builtinE (by assumption) (by assumption) (by rfl) (by first | reg3_boot | boot_fact) (by decide) ?_
      refine PyProof.Rows.callWith_type1 ?_; refine args_cons ?_; refine Call_ ?_
      refine r_builtinE (by assumption) (by assumption) (by rfl) (by first | reg3_boot | boot_fact) (by decide) ?_
      refine PyProof.Rows.callWith_builtin1 ?_; refine args_cons ?_
      refine r_cellE (by assumption) (by rfl) (by first | assumption | (repeat (first | exact List.Mem.head _ | apply List.Mem.tail))) (by assumption) ?_
      refine args_nil ?_; refine r_lenS (by assumption) (by assumption) ?_; intro _ _ _; refine args_nil ?_
      refine r_range1 (by assumption) ?_; intro _ _ _ _ _ _ _
      rw [T_len] at *
      have hWz : (T word).length ≤ 1000000 := by rw [T_len]; (clear hc5 hc4 hc3 hDs hσp hσl hσb hlex hh hr hu e1 r1 r2 r3 r4 r5 r6 r7 r8 r9 w1 w2 w3 w4 w5 w6 w7 q1 q2 q3 q4 q5 hl1 hl2 hnw hw0 hrun hlen hyl hnl e e' hword hstep hnum hrun' hmem hp2 hln2 hc5' hvw eR8 hAC etg hlw; omega)
      refine r_iterRange (by assumption) (.head _) (small_one (by (clear hc5 hc4 hc3 hDs hσp hσl hσb hlex hh hr hu e1 r1 r2 r3 r4 r5 r6 r7 r8 r9 w1 w2 w3 w4 w5 w6 w7 q1 q2 q3 q4 q5 hl1 hl2 hnw hw0 hrun hlen hyl hnl e e' hword hstep hnum hrun' hmem hp2 hln2 hc5' hvw eR8 hAC etg hlw hWz; omega)) (by (clear hc5 hc4 hc3 hDs hσp hσl hσb hlex hh hr hu e1 r1 r2 r3 r4 r5 r6 r7 r8 r9 w1 w2 w3 w4 w5 w6 w7 q1 q2 q3 q4 q5 hl1 hl2 hnw hw0 hrun hlen hyl hnl e e' hword hstep hnum hrun' hmem hp2 hln2 hc5' hvw eR8 hAC etg hlw hWz; omega)) (by (clear hc5 hc4 hc3 hDs hσp hσl hσb hlex hh hr hu e1 r1 r2 r3 r4 r5 r6 r7 r8 r9 w1 w2 w3 w4 w5 w6 w7 q1 q2 q3 q4 q5 hl1 hl2 hnw hw0 hrun hlen hyl hnl e e' hword hstep hnum hrun' hmem hp2 hln2 hc5' hvw eR8 hAC etg hWz; omega)) (by (clear hc5 hc4 hc3 hDs hσp hσl hσb hlex hh hr hu e1 r1 r2 r3 r4 r5 r6 r7 r8 r9 w1 w2 w3 w4 w5 w6 w7 q1 q2 q3 q4 q5 hl1 hl2 hnw hw0 hrun hlen hyl hnl e e' hword hstep hnum hrun' hmem hp2 hln2 hc5' hvw eR8 hAC etg hWz; omega))) ?_
      intro I s19 hI S19
      have eR19 : Builtin.Range.rangeSize 0 (word.length : Int) 1 = word.length := by rw [rangeSize_nat]; simp
      rw [eR19] at S19
      have hIlt : ∀ p ∈ lawM a σ2 L Wd Nd D yw (yn ++ [Value.int (lNumber words numbers word) tn]) ew (en + 1) oD o1 o2 o3 o4 o5' ps, p.1 < I := fun p hp => hI p (.tail _ hp)
      have hIne : ∀ {σ4 yw4 ew4}, ∀ p ∈ lawM a σ4 L Wd Nd D yw4 (yn ++ [Value.int (lNumber words numbers word) tn]) ew4 (en + 1) oD o1 o2 o3 o4 o5' ps, p.1 ≠ I := fun {σ4 yw4 ew4} p hp => lawM_lt hIlt p hp
      refine ForQ.of (fun n' s' => ∃ (i : Nat) (σ3 : LexS) (yw3 : List Value) (ew3 : Nat) (l3 : List (Str × Value)) (ws3 : List (List Nat)), i + n' = word.length ∧
          St g os h₀ L l3 ((I, rangeIt (i : Int) ((word.length : Int) - i) 1) :: lawM a σ3 L Wd Nd D yw3 (yn ++ [Value.int (lNumber words numbers word) tn]) ew3 (en + 1) oD o1 o2 o3 o4 o5' ps) s' ∧
          l3.lookup ("lexer" : Str) = some (.ref a.X) ∧ l3.lookup ("ways" : Str) = some (.ref D) ∧ Rel2 TV ws3 yw3 ∧ ws3 = (List.range i).foldl (lGrow word) words ∧ ws3.length ≤ words.length + i ∧ numbers.length + 1 ≤ ws3.length ∧ (∀ x ∈ ws3, WordOk x) ∧
          text.drop σ3.p = (gt text 1).2.1 ∧ σ3.ln = (gt text 1).2.2 ∧ Rel2 TV (ws3.drop (numbers.length + 1)) σ3.pb)
        (fun s' => ∃ (σ3 : LexS) (yw3 : List Value) (ew3 : Nat) (l3 : List (Str × Value)) (ws3 : List (List Nat)),
          St g os h₀ L l3 (lawM a σ3 L Wd Nd D yw3 (yn ++ [Value.int (lNumber words numbers word) tn]) ew3 (en + 1) oD o1 o2 o3 o4 o5' ps) s' ∧
          l3.lookup ("lexer" : Str) = some (.ref a.X) ∧ l3.lookup ("ways" : Str) = some (.ref D) ∧ Rel2 TV ws3 yw3 ∧ ws3 = (List.range word.length).foldl (lGrow word) words ∧ ws3.length ≤ words.length + word.length ∧ numbers.length + 1 ≤ ws3.length ∧ (∀ x ∈ ws3, WordOk x) ∧
          text.drop σ3.p = (gt text 1).2.1 ∧ σ3.ln = (gt text 1).2.2 ∧ Rel2 TV (ws3.drop (numbers.length + 1)) σ3.pb)
        word.length ⟨0, σ2, yw, ew, _, words, by (clear hc5 hc4 hc3 hDs hσp hσl hσb hlex hh hr hu e1 r1 r2 r3 r4 r5 r6 r7 r8 r9 w1 w2 w3 w4 w5 w6 w7 q1 q2 q3 q4 q5 hl1 hl2 hnw hw0 hrun hlen hyl hnl e e' hword hstep hnum hrun' hmem hp2 hln2 hc5' hvw eR8 hAC etg hlw hWz eR19; omega), S19.drop (fun p hp => by
            rcases List.mem_cons.mp hp with rfl | hp
            · simp
            · exact .tail _ (.tail _ hp)), rfl, rfl, hW, rfl, by (clear hc5 hc4 hc3 hDs hσp hσl hσb hlex hh hr hu e1 r1 r2 r3 r4 r5 r6 r7 r8 r9 w1 w2 w3 w4 w5 w6 w7 q1 q2 q3 q4 q5 hl1 hl2 hnw hw0 hrun hlen hyl hnl e e' hword hstep hnum hrun' hmem hp2 hln2 hc5' hvw eR8 hAC etg hlw hWz eR19; omega), by (clear hc5 hc4 hc3 hDs hσp hσl hσb hlex hh hr hu e1 r1 r2 r3 r4 r5 r6 r7 r8 r9 w1 w2 w3 w4 w5 w6 w7 q1 q2 q3 q4 q5 hl1 hl2 hnw hw0 hrun hlen e hword hstep hnum hrun' hmem hp2 hln2 hc5' hvw hAC etg hlw hWz eR19; omega), hok, hp2, hln2, hpb2⟩ ?_ ?_
      · rintro n' Tw Xw hTw hXw s20 ⟨i, σ3, yw3, ew3, l3, ws3, hin, S20, hl31, hl32, hW3, hws, hwl, hnw3, hok3, hp3, hln3, hpb3⟩
        have S20 := St.re (l' := [("lexer", .ref a.X), ("ways", .ref D)]) S20 ⟨hl31, hl32, trivial⟩
        refine r_nextRange hh S20 hIne ?_ ?_
        rotate_left
        · intro hle s21 S21
          have hi : i = word.length := by (clear hc5 hc4 hc3 hDs hσp hσl hσb hlex hh hr hu e1 r1 r2 r3 r4 r5 r6 r7 r8 r9 w1 w2 w3 w4 w5 w6 w7 q1 q2 q3 q4 q5 hl1 hl2 hnw hw0 hrun hlen hyl hnl e e' hword hstep hnum hrun' hmem hp2 hln2 hc5' hvw eR8 hAC etg hlw hWz hl31 hl32 hws hwl hnw3 hp3 hln3; omega)
          subst hi
          exact hXw _ ⟨σ3, yw3, ew3, _, ws3, S21, rfl, rfl, hW3, hws, hwl, hnw3, hok3, hp3, hln3, hpb3⟩
        intro hlt ti s21 S21
        have hiw : i < word.length := by (clear hc5 hc4 hc3 hDs hσp hσl hσb hlex hh hr hu e1 r1 r2 r3 r4 r5 r6 r7 r8 r9 w1 w2 w3 w4 w5 w6 w7 q1 q2 q3 q4 q5 hl1 hl2 hnw hw0 hrun hlen hyl hnl e e' hword hstep hnum hrun' hmem hp2 hln2 hc5' hvw eR8 hAC etg hlw hWz hl31 hl32 hws hwl hnw3 hp3 hln3; omega)
        show wpAny _ _ (letOwnedTupleGo _ _ _) _ _ _
        refine r_letName ?_; refine r_assignE (by assumption) ?_; intro _ _; refine r_cons ?_; refine wpAny_Assign_Name ?_; refine wpAny_BinOp ?_
        refine Subscript_ ?_
        refine r_cellE (by assumption) (by rfl) (by first | assumption | (repeat (first | exact List.Mem.head _ | apply List.Mem.tail))) (by assumption) ?_
        refine r_slice ?_; refine r_part0 ?_; refine r_part1 ?_; refine r_nameE (by assumption) (by rfl) ?_; refine r_part0 ?_
        refine r_sliceS_ns (by assumption) (by assumption) ?_; intro _ _ _; refine Subscript_ ?_
        refine r_cellE (by assumption) (by rfl) (by first | assumption | (repeat (first | exact List.Mem.head _ | apply List.Mem.tail))) (by assumption) ?_
        refine r_slice ?_; refine r_part1 ?_; refine wpAny_BinOp ?_; refine r_nameE (by assumption) (by rfl) ?_
        refine r_int (by assumption) ?_; intro _ _ _; refine r_add (by assumption) ?_; intro _ _ _; refine r_part0 ?_; refine r_part0 ?_
        refine r_sliceS_sn (by assumption) (by assumption) ?_; intro _ _ _
        rw [T_slice_hi]
        skip
        rw [show ((i : Int) + 1) = ((i + 1 : Nat) : Int) from rfl, T_slice_lo]
        have hll : (lLess word i).length ≤ 4 := by unfold lLess; rw [List.length_append, List.length_take, List.length_drop]; (clear hc5 hc4 hc3 hDs hσp hσl hσb hlex hh hr hu e1 r1 r2 r3 r4 r5 r6 r7 r8 r9 w1 w2 w3 w4 w5 w6 w7 q1 q2 q3 q4 q5 hl1 hl2 hnw hw0 hrun hlen hyl hnl e e' hword hstep hnum hrun' hmem hp2 hln2 hc5' hvw eR8 hAC etg hWz hl31 hl32 hws hwl hnw3 hp3 hln3 hiw; omega)
        have hlc : ∀ c ∈ lLess word i, c < 128 := fun c hc => (List.mem_append.mp hc).elim (fun h => hwok.2 c (List.mem_of_mem_take h)) (fun h => hwok.2 c (List.mem_of_mem_drop h))
        refine r_adds (by assumption) ?_ ?_
        · rw [T_len, T_len, sizeLine_eq, List.length_take, List.length_drop]; (clear hc5 hc4 hc3 hDs hσp hσl hσb hlex hh hr hu e1 r1 r2 r3 r4 r5 r6 r7 r8 r9 w1 w2 w3 w4 w5 w6 w7 q1 q2 q3 q4 q5 hl1 hl2 hnw hw0 hrun hlen hyl hnl e e' hword hstep hnum hrun' hmem hp2 hln2 hc5' hvw eR8 hAC etg hWz hl31 hl32 hws hwl hnw3 hp3 hln3 hiw hll; omega)
        intro t22 s22 S22
        rw [T_append, show word.take i ++ word.drop (i + 1) = lLess word i from rfl]
        refine r_storeE (by assumption) ?_; intro _ _; refine SeqQ.go ?_; refine r_cons ?_; refine r_if ?_; refine wpAny_isTrue_Compare1 ?_
        refine r_nameE (by assumption) (by rfl) ?_
        refine r_cellE (by assumption) (by rfl) (by first | assumption | (repeat (first | exact List.Mem.head _ | apply List.Mem.tail))) (by assumption) ?_
        rename_i s23 S23
        refine r_notinStrs (ys := yw3.toArray) S23 (by (repeat (first | exact List.Mem.head _ | apply List.Mem.tail))) (by simpa using hW3) ?_
        refine wpAny_truthy_bool ?_
        have egrow : (List.range (i + 1)).foldl (lGrow word) words = lGrow word ws3 i := by rw [List.range_succ, List.foldl_append, ← hws]; rfl
        have erng1 : (word.length : Int) - i - 1 = (word.length : Int) - ((i + 1 : Nat) : Int) := by (clear hc5 hc4 hc3 hDs hσp hσl hσb hlex hh hr hu e1 r1 r2 r3 r4 r5 r6 r7 r8 r9 w1 w2 w3 w4 w5 w6 w7 q1 q2 q3 q4 q5 hl1 hl2 hnw hw0 hrun hlen hyl hnl e e' hword hstep hnum hrun' hmem hp2 hln2 hc5' hvw eR8 hAC etg hlw hWz eR19 hin hl31 hl32 hws hwl hnw3 hp3 hln3 hlt hiw hll egrow; omega)
        have hw3l := hW3.length
        have hpbl := hpb3.length
        rw [List.length_drop] at hpbl
        refine Br.split (fun e9 => ?_) (fun e9 => ?_)
        · have e9' : ¬ ws3.contains (lLess word i) = true := by simpa using e9
          refine r_cons ?_; refine wpAny_Expr ?_; refine MethodCall_ ?_
          refine r_cellE (by assumption) (by rfl) (by first | assumption | (repeat (first | exact List.Mem.head _ | apply List.Mem.tail))) (by assumption) ?_
          refine r_getAppend (its := yw3.toArray) S23 (by (repeat (first | exact List.Mem.head _ | apply List.Mem.tail))) ?_
          refine PyProof.Rows.callWith_method1 ?_; refine args_cons ?_; refine r_nameE (by assumption) (by rfl) ?_; refine args_nil ?_
          change wpAny _ _ (call _ [_, _]) _ _ _
          refine r_append (its := yw3.toArray) S23 (.tail (Ne.symm (hIne (σ4 := σ3) (Wd, listOf yw3.toArray ew3) (by (repeat (first | exact List.Mem.head _ | apply List.Mem.tail))))) (.tail w5 (.tail w6 (.tail w7 (.head (lawM_neW O.ord ⟨q1, q2, q3, q4, q5⟩)))))) (by rw [List.size_toArray]; (clear hc5 hc4 hc3 hDs hσp hσl hσb hlex hh hr hu e1 r1 r2 r3 r4 r5 r6 r7 r8 r9 w1 w2 w3 w4 w5 w6 w7 q1 q2 q3 q4 q5 hl1 hl2 hnw hrun hnl e e' hword hstep hnum hrun' hmem hp2 hln2 hc5' hvw eR8 hAC etg hWz hl31 hl32 hws hnw3 hp3 hln3 hiw hll egrow erng1 hpbl e9 e9'; omega)) ?_
          intro s24 S24
          rw [List.push_toArray] at S24
          refine SeqQ.go ?_; refine r_cons ?_; refine wpAny_Expr ?_; refine MethodCall_ ?_; refine r_nameE (by assumption) (by rfl) ?_
          refine r_method (C := 80) S24 B (by (repeat (first | exact List.Mem.head _ | apply List.Mem.tail))) (by (repeat (first | exact List.Mem.head _ | apply List.Mem.tail))) (k80_get w _) (k80_m3 w) (k77_fn w) rfl ?_
          refine callWith_K B.k rfl ?_
          refine args_cons ?_; refine r_nameE (by assumption) (by rfl) ?_; refine args_nil ?_; refine k_and (by assumption) (by assumption) ?_
          change wpAny _ _ (call _ [_, _]) _ _ _
          refine push_spec (rest := [(I, rangeIt ((i : Int) + 1) ((word.length : Int) - i - 1) 1), (L + 5, o5'), (L + 4, o4), (L + 3, o3), (Wd, listOf (yw3 ++ [Value.str (T (lLess word i)) t22]).toArray (ew3 + 1)), (Nd, listOf (yn ++ [Value.int (lNumber words numbers word) tn]).toArray (en + 1)), (D, oD), (L + 2, o2), (L + 1, o1), (86, tabObj ps)]) O (by (clear hc5 hc4 hc3 hDs hσp hσl hσb hlex hh hr hu e1 r1 r2 r3 r4 r5 r6 r7 r8 r9 w1 w2 w3 w4 w5 w6 w7 q1 q2 q3 q4 q5 hl1 hl2 hnw hrun e e' hword hstep hnum hrun' hmem hp2 hln2 hc5' hvw hAC etg hWz hl31 hl32 hws hp3 hln3 hiw hll egrow erng1 e9 e9'; omega)) (S24.drop fun p hp => mem_lex.mp hp) B (by (clear hc5 hc4 hc3 hDs hσp hσl hσb hlex hh hu e1 r1 r2 r3 r4 r5 r6 r7 r8 r9 w1 w2 w3 w4 w5 w6 w7 q1 q2 q3 q4 q5 hl1 hl2 hnw hw0 hrun hlen hyl hnl e e' hword hstep hnum hrun' hmem hp2 hln2 hc5' hvw eR8 hAC etg hlw hWz eR19 hin hl31 hl32 hws hwl hnw3 hp3 hln3 hlt hiw hll egrow erng1 hw3l hpbl e9 e9'; omega)) (fun p hp => ?_) ?_
          · rcases List.mem_cons.mp hp with rfl | hp
            · exact Ne.symm (hIne (σ4 := σ3) (yw4 := yw3) (ew4 := ew3) (a.PB, listOf σ3.pb.toArray σ3.pe) (by (repeat (first | exact List.Mem.head _ | apply List.Mem.tail))))
            · exact (lawR_ne O.ord ⟨q1, q2, q3, q4, q5⟩ p hp).2.2
          intro s25 S25
          refine SeqQ.go ?_; refine r_nil ?_; refine SeqQ.go ?_; refine r_nil ?_
          have S26 := S25.drop (news' := (I, rangeIt ((i : Int) + 1) ((word.length : Int) - i - 1) 1) :: lawM a { σ3 with pb := σ3.pb ++ [Value.str (T (lLess word i)) t22], pe := σ3.pe + 1 } L Wd Nd D (yw3 ++ [Value.str (T (lLess word i)) t22]) (yn ++ [Value.int (lNumber words numbers word) tn]) (ew3 + 1) (en + 1) oD o1 o2 o3 o4 o5' ps) (fun p hp => mem_lex.mpr hp)
          rw [erng1] at S26
          refine hTw _ _ ⟨n' - 1, (turn_lt hin hiw).1, i + 1, { σ3 with pb := σ3.pb ++ [Value.str (T (lLess word i)) t22], pe := σ3.pe + 1 }, yw3 ++ [Value.str (T (lLess word i)) t22], ew3 + 1, _, ws3 ++ [lLess word i], (turn_lt hin hiw).2, S26, rfl, rfl, hW3.snoc ⟨_, rfl⟩, ?_, by rw [List.length_append]; simp only [List.length_cons, List.length_nil]; (clear hc5 hc4 hc3 hDs hσp hσl hσb hlex hh hr hu e1 r1 r2 r3 r4 r5 r6 r7 r8 r9 w1 w2 w3 w4 w5 w6 w7 q1 q2 q3 q4 q5 hl1 hl2 hnw hw0 hrun hlen hnl e e' hword hstep hnum hrun' hmem hp2 hln2 hc5' hvw eR8 hAC etg hlw hWz eR19 hin hl31 hl32 hws hnw3 hp3 hln3 hlt hiw hll egrow erng1 hpbl e9 e9'; omega), by rw [List.length_append]; (clear hc5 hc4 hc3 hDs hσp hσl hσb hlex hh hr hu e1 r1 r2 r3 r4 r5 r6 r7 r8 r9 w1 w2 w3 w4 w5 w6 w7 q1 q2 q3 q4 q5 hl1 hl2 hnw hw0 hrun hlen hyl e e' hword hstep hnum hrun' hmem hp2 hln2 hc5' hvw hAC etg hlw hWz eR19 hin hl31 hl32 hws hwl hp3 hln3 hlt hiw hll egrow erng1 hpbl e9 e9'; omega), ?_, hp3, hln3, ?_⟩
          · rw [egrow]; unfold lGrow; rw [if_neg e9']
          · intro x hx
            rcases List.mem_append.mp hx with hx | hx
            · exact hok3 x hx
            · rcases List.mem_singleton.mp hx with rfl; exact ⟨hll, hlc⟩
          · rw [List.drop_append_of_le_length hnw3]
            exact hpb3.snoc ⟨_, rfl⟩
        · have e9' : ws3.contains (lLess word i) = true := by simpa using e9
          refine r_nil ?_; refine SeqQ.go ?_; refine r_nil ?_
          rw [erng1] at S23
          exact hTw _ _ ⟨n' - 1, (turn_lt hin hiw).1, i + 1, σ3, yw3, ew3, _, ws3, (turn_lt hin hiw).2, S23, rfl, rfl, hW3, by rw [egrow]; unfold lGrow; rw [if_pos e9'], by (clear hc5 hc4 hc3 hDs hσp hσl hσb hlex hh hr hu e1 r1 r2 r3 r4 r5 r6 r7 r8 r9 w1 w2 w3 w4 w5 w6 w7 q1 q2 q3 q4 q5 hl1 hl2 hnw hw0 hrun hlen hnl e e' hword hstep hnum hrun' hmem hp2 hln2 hc5' hvw eR8 hAC etg hlw hWz eR19 hin hl31 hl32 hws hnw3 hp3 hln3 hlt hiw hll egrow erng1 hpbl e9 e9'; omega), hnw3, hok3, hp3, hln3, hpb3⟩
      · rintro s20 ⟨σ3, yw3, ew3, l3, ws3, S20, hl31, hl32, hW3, hws, hwl, hnw3, hok3, hp3, hln3, hpb3⟩
        refine SeqQ.go ?_; refine r_nil ?_
        refine hTv _ _ ⟨n, Nat.lt_succ_self _, ws3, numbers ++ [lNumber words numbers word], σ3, yw3, _, ew3, _, o5', _, l3, S20.toN, hc5', hl31, hl32, hW3, hN', by rw [hws]; exact hrun', by (clear hc5 hc4 hc3 hDs hσp hσl hσb hlex hh hr hu e1 r1 r2 r3 r4 r5 r6 r7 r8 r9 w1 w2 w3 w4 w5 w6 w7 q1 q2 q3 q4 q5 hl1 hl2 hnw hw0 hrun hnl e e' hword hstep hnum hrun' hmem hp2 hln2 hc5' hvw eR8 hAC etg hWz hl31 hl32 hws hnw3 hp3 hln3; omega), by simp; (clear hc5 hc4 hc3 hDs hσp hσl hσb hlex hh hr hu e1 r1 r2 r3 r4 r5 r6 r7 r8 r9 w1 w2 w3 w4 w5 w6 w7 q1 q2 q3 q4 q5 hl1 hl2 hnw hw0 hrun hlen hyl hnl e e' hword hstep hnum hrun' hmem hp2 hln2 hc5' hvw eR8 hAC etg hlw hWz eR19 hl31 hl32 hws hwl hp3 hln3; omega), by (clear hc5 hc4 hc3 hDs hσp hσl hσb hlex hh hr hu e1 r1 r2 r3 r4 r5 r6 r7 r8 r9 w1 w2 w3 w4 w5 w6 w7 q1 q2 q3 q4 q5 hl1 hl2 hnw hw0 hrun hlen hyl e e' hword hstep hnum hrun' hmem hp2 hln2 hc5' hvw hAC etg hlw hWz eR19 hl31 hl32 hws hwl hp3 hln3; omega), hok3, fun h0 => by simp at h0, fun _ => ⟨hp3, hln3, by simpa using hpb3⟩⟩
    · have e' : ¬ numbers.length < words.length := by simp at e; (clear hc4 hc3 hDs hσp hσl hσb hlex hh hr hu e1 r1 r2 r3 r4 r5 r6 r7 r8 r9 w1 w2 w3 w4 w5 w6 w7 q1 q2 q3 q4 q5 hc5 hl1 hl2 hw0 hrun hlen hstep; omega)
      have hne : numbers ≠ [] := by rintro rfl; simp at e'; exact absurd hw0 (by simp [e'])
      obtain ⟨k1, k2, k3⟩ := hnz hne
      have hpb : σ'.pb = [] := by
        have : words.length ≤ numbers.length := by (clear hc4 hc3 hDs hσp hσl hσb hlex hh hr hu e1 r1 r2 r3 r4 r5 r6 r7 r8 r9 w1 w2 w3 w4 w5 w6 w7 q1 q2 q3 q4 q5 hc5 hl1 hl2 hw0 hrun hlen hstep e hne k1 k2; omega)
        rw [List.drop_of_length_le this] at k3
        generalize σ'.pb = pb at k3
        cases k3; rfl
      exact hXv _ ⟨σ', yw, yn, ew, en, o5, _, S3.toN, rfl, k1, k2, hpb⟩
  · rintro s1 ⟨σ', yw, yn, ew, en, o5, l', S1, hl1, hp, hln, hpb⟩
    have S1 := St.re (l' := [("lexer", .ref a.X)]) S1 ⟨hl1, trivial⟩
    have hR : ∀ p ∈ ([(L + 5, o5), (L + 4, o4), (L + 3, o3), (Wd, listOf yw.toArray ew), (Nd, listOf yn.toArray en), (D, oD), (L + 2, o2), (L + 1, o1), (86, tabObj ps)] : List (Addr × Obj)), p.1 ≠ a.pl ∧ p.1 ≠ a.dX := fun p hp => ⟨(lawR_ne O.ord ⟨q1, q2, q3, q4, q5⟩ p hp).1, (lawR_ne O.ord ⟨q1, q2, q3, q4, q5⟩ p hp).2.1⟩
    obtain ⟨g1, g2, g3, g4⟩ := hlex
    refine SeqQ.go ?_; refine r_cons ?_; refine wpAny_Return_some ?_; refine wpAny_Compare1 ?_; refine List_ ?_; refine args_cons ?_
    refine MethodCall_ ?_; refine r_nameE (by assumption) (by rfl) ?_
    refine r_method (C := 80) S1 B (by (repeat (first | exact List.Mem.head _ | apply List.Mem.tail))) (by (repeat (first | exact List.Mem.head _ | apply List.Mem.tail))) (k80_get w _) (k80_m2 w) (k70_fn w) rfl ?_
    refine callWith_K0 (S1.base B).k rfl ?_
    refine tok_read O hh hpb S1 B (by (clear hl2 hc5 hc4 hc3 hDs hσp hσl hσb hrun hh hu e1 r1 r2 r3 r4 r5 r6 r7 r8 r9 w1 w2 w3 w4 w5 w6 w7 q1 q2 q3 q4 q5 hl1 hp hln hpb g1 g2 g3 g4; omega)) hR ?_
    intro t2 σ2 s2 u1 u2 u3 u4 S2
    rw [hp, hln] at u1 u2 ⊢
    rw [show (gt (gt text 1).2.1 (gt text 1).2.2).1 = [101, 110, 100] from g2]
    refine args_cons ?_; refine MethodCall_ ?_; refine r_nameE (by assumption) (by rfl) ?_
    refine r_method (C := 80) S2 B (by (repeat (first | exact List.Mem.head _ | apply List.Mem.tail))) (by (repeat (first | exact List.Mem.head _ | apply List.Mem.tail))) (k80_get w _) (k80_m2 w) (k70_fn w) rfl ?_
    refine callWith_K0 (S2.base B).k rfl ?_
    refine tok_read O hh u3 S2 B (by (clear hl2 hc5 hc4 hc3 hDs hσp hσl hσb hrun hh hu e1 r1 r2 r3 r4 r5 r6 r7 r8 r9 w1 w2 w3 w4 w5 w6 w7 q1 q2 q3 q4 q5 hl1 hp hln hpb g1 g2 g3 g4 u1 u2 u3 u4; omega)) hR ?_
    intro t3 σ3 s3 v1 v2 v3 v4 S3
    rw [u1, u2] at v1 v2 ⊢
    rw [show (gt (gt (gt text 1).2.1 (gt text 1).2.2).2.1 (gt (gt text 1).2.1 (gt text 1).2.2).2.2).1 = [] from g3]
    rw [show (gt (gt (gt text 1).2.1 (gt text 1).2.2).2.1 (gt (gt text 1).2.1 (gt text 1).2.2).2.2).2.2 = 2 from g4] at v2
    obtain ⟨p3, tp3, ep3, ln3, tl3, pb3, pe3⟩ := σ3
    dsimp only at v2
    subst v2
    refine args_cons ?_
    refine Attribute_any_ ?_
    refine r_nameE (by assumption) (by rfl) ?_
    refine r_getOwn (C := 80) S3 B (by (repeat (first | exact List.Mem.head _ | apply List.Mem.tail))) (by (repeat (first | exact List.Mem.head _ | apply List.Mem.tail))) (k80_get w _) (k80_dict w) (k80_f1 w) rfl rfl rfl ?_
    intro s4 S4
    refine args_nil ?_; refine r_newList (by assumption) (by simp) ?_; intro _ _ _ _; refine List_ ?_; refine args_cons ?_
    refine r_str (by assumption) ?_; intro _ _ _; refine args_cons ?_; refine r_str (by assumption) ?_; intro _ _ _; refine args_cons ?_
    refine r_int (by assumption) ?_; intro _ _ _; refine args_nil ?_; refine r_newList (by assumption) (by simp) ?_; intro _ _ _ _
    rename_i S5
    rw [show (Str.ofString "end" : Str) = T [101, 110, 100] by decide +kernel, em_eq] at S5
    refine r_eqFin (by (clear hl2 hc5 hc4 hc3 hDs hσp hσl hσb hrun hh hr e1 r1 r2 r3 r4 r5 r6 r7 r8 r9 w1 w2 w3 w4 w5 w6 w7 q1 q2 q3 q4 q5 hl1 hp hln hpb g1 g2 g3 g4 u1 u2 u3 u4 v1 v3 v4; omega)) S5 (.tail _ (.head _)) (.head _) ?_
    refine SeqQ.ret ?_; refine RetQ.ret ?_
    exact h _ _ _ (by (repeat (first | exact List.Mem.head _ | apply List.Mem.tail))) S5
end
end Mine
end
section
open PySem PySem.W PyProof.Rows PySem.Calls
set_option Elab.async false
set_option maxRecDepth 100000
set_option maxHeartbeats 1000000
set_option linter.unusedVariables false
namespace Mine
/-- the class k's sum, its parity -/
noncomputable def cSum (ns : List Int) (k : Nat) : Int := (if k = 1 then (1 : Int) else 0) + (pickNums ns (some (k : Int)) none (some 4)).sum
noncomputable def cBit (ns : List Int) (k : Nat) : Nat := (Int.fmod (cSum ns k) 2).toNat
noncomputable def tSig (ns : List Int) : Nat := (Int.fmod (Int.fdiv ns.sum 2) 6).toNat
noncomputable def tMark (ns : List Int) : Nat := (Int.fmod (Int.fdiv ns.sum 12) 2).toNat
noncomputable def tTurn (ns : List Int) : Nat := (Int.fmod (Int.fdiv ns.sum 24) 4).toNat
theorem fm_of (a b : Int) (hb : 0 < b) : Int.fmod a b = ((Int.fmod a b).toNat : Int) ∧ (Int.fmod a b).toNat < b.toNat := by
  have h1 := Int.fmod_nonneg_of_pos a hb
  have h2 := Int.fmod_lt_of_pos a hb
  omega
theorem lSig_two : ∀ i, i < 6 → ∃ x0 x1, lSig i = [x0, x1] ∧ x0 < 128 ∧ x1 < 128 := by
  intro i hi
  match i, hi with
  | 0, _ => exact ⟨_, _, rfl, by decide, by decide⟩
  | 1, _ => exact ⟨_, _, rfl, by decide, by decide⟩
  | 2, _ => exact ⟨_, _, rfl, by decide, by decide⟩
  | 3, _ => exact ⟨_, _, rfl, by decide, by decide⟩
  | 4, _ => exact ⟨_, _, rfl, by decide, by decide⟩
  | 5, _ => exact ⟨_, _, rfl, by decide, by decide⟩
theorem near_ok : ∀ i, i < 6 → lev [(lSig i).getD 0 0] [(lSig i).getD 1 0] 9 = lNear i := by decide +kernel
theorem sig_strs (t0 t1 t2 t3 t4 t5 : Tok) : ∀ i, i < 6 → ∃ t, ([.str "ab" t0, .str "aA" t1, .str "()" t2, .str "\"b" t3, .str "A\\" t4, .str " b" t5] : List Value)[i]? = some (.str (T (lSig i)) t) := by
  intro i hi
  match i, hi with
  | 0, _ => exact ⟨t0, by rw [show T (lSig 0) = ("ab" : Str) by decide +kernel]; rfl⟩
  | 1, _ => exact ⟨t1, by rw [show T (lSig 1) = ("aA" : Str) by decide +kernel]; rfl⟩
  | 2, _ => exact ⟨t2, by rw [show T (lSig 2) = ("()" : Str) by decide +kernel]; rfl⟩
  | 3, _ => exact ⟨t3, by rw [show T (lSig 3) = ("\"b" : Str) by decide +kernel]; rfl⟩
  | 4, _ => exact ⟨t4, by rw [show T (lSig 4) = ("A\\" : Str) by decide +kernel]; rfl⟩
  | 5, _ => exact ⟨t5, by rw [show T (lSig 5) = (" b" : Str) by decide +kernel]; rfl⟩
section
variable {w : World} {A : Around} {s : Shared} {g : Array GenState} {os : OsState} {h₀ : Heap}
set_option maxHeartbeats 16000000 in
theorem law_spec {L : Nat} {sc : Addr} {vs : List Value} {ns : List Int} {l : List (Str × Value)} {qn : Str} {fa : Addr} {cd : Value} {fname qual : Str} {params : Arguments} {body : List Stmt} {fscope : Scope} {dV kV doc pm cdv ct oc : Value} {an od : Option Addr} {osl : Array (Option Value)} {o1 o2 o3 o4 o5 : Obj} {Q : Value → Shared → Prop}
    (ho : (KK w).lookup 113 = some ⟨oc, od, .func (fnOf fname qual params body fscope dV kV doc pm an cdv ct), osl⟩)
    (hsc : h₀.IsList sc vs.toArray) (hi : IntsAre vs ns) (hlen : ns.length ≤ 63) (S : St g os h₀ L l [(L + 5, o5), (L + 4, o4), (L + 3, o3), (L + 2, o2), (L + 1, o1), (86, tabObj #[])] s)
    (hc1 : o1.data = .cell (some (.ref sc))) (hc2 : o2.data = .cell none) (hc3 : o3.data = .cell none) (hc4 : o4.data = .cell none) (hc5 : o5.data = .cell none)
    (h86 : 86 < L) (B : Base w h₀) (TX : TopX h₀) (C : CodeHd h₀ 90 86) (hh : A.handled = none) (hr : A.depth + 80 < recursionLimit) (hu : A.units + 200 < cLine) (hbare : AllBare g)
    (hloop : ∀ i, i < 6 → ∀ b0, b0 < 2 → ∀ b1, b1 < 2 → ∀ b2, b2 < 2 → ∀ b3, b3 < 2 → loopOkB (lRow i b0 b1 b2 b3) = true)
    (hlexO : ∀ i, i < 6 → ∀ b0, b0 < 2 → ∀ b1, b1 < 2 → ∀ b2, b2 < 2 → ∀ b3, b3 < 2 → ∀ m, m < 2 → ∀ t, t < 4 → lexOkB (lRow i b0 b1 b2 b3) m t = true)
    (h : ∀ g' s' ps l' news', AllBare g' → (86, tabObj ps) ∈ news' → St g' os h₀ L l' news' s' → Q (.bool true) s') :
    wpAny (MM w) A (execs body (envX qn fscope L fa cd (cellsFrom (L + 1) fscope.names []))) (RetQ Q) NoE s := by
  have ho' := ho
  have e1 : (KK w).lookup 113 = some ⟨_, _, .func (fnOf _ _ _ _ _ _ _ _ _ _ _ _), _⟩ := rfl
  rw [e1] at ho
  cases ho
  have hvl := hi.length
  refine r_cons ?_; refine wpAny_Assign_Name ?_; refine Call_ ?_
  refine r_builtinE (by assumption) (by assumption) (by rfl) (by first | reg3_boot | boot_fact) (by decide) ?_
  refine PyProof.Rows.callWith_builtin1 ?_; refine args_cons ?_
  refine r_cellE (by assumption) (by rfl) (by first | assumption | (repeat (first | exact List.Mem.head _ | apply List.Mem.tail))) (by assumption) ?_
  refine args_nil ?_
  refine r_sum hh S (hsc.at fun o e => S.keep sc o e) hi ?_
  intro t1 s1 S1
  obtain ⟨ei1, ei2⟩ := fm_of (Int.fdiv ns.sum 2) 6 (by decide)
  obtain ⟨em1, em2⟩ := fm_of (Int.fdiv ns.sum 12) 2 (by decide)
  obtain ⟨et1, et2⟩ := fm_of (Int.fdiv ns.sum 24) 4 (by decide)
  have hi6 : tSig ns < 6 := ei2
  have hm2 : tMark ns < 2 := em2
  have ht4 : tTurn ns < 4 := et2
  refine r_storeE (by assumption) ?_; intro _ _; refine SeqQ.go ?_; refine r_cons ?_; refine wpAny_Assign_Name ?_; refine Subscript_ ?_
  refine List_ ?_; refine args_cons ?_; refine r_str (by assumption) ?_; intro _ _ _; refine args_cons ?_
  refine r_str (by assumption) ?_; intro _ _ _; refine args_cons ?_; refine r_str (by assumption) ?_; intro _ _ _; refine args_cons ?_
  refine r_str (by assumption) ?_; intro _ _ _; refine args_cons ?_; refine r_str (by assumption) ?_; intro _ _ _; refine args_cons ?_
  refine r_str (by assumption) ?_; intro _ _ _; refine args_nil ?_; refine r_newList (by assumption) (by simp) ?_; intro _ _ _ _
  refine wpAny_BinOp ?_; refine wpAny_BinOp ?_; refine r_nameE (by assumption) (by rfl) ?_; refine r_int (by assumption) ?_; intro _ _ _
  refine r_fdiv (by assumption) (by decide) (by decide) ?_; intro _ _ _; refine r_int (by assumption) ?_; intro _ _ _
  refine r_mod (by assumption) (by decide) ?_; intro _ _ _
  rw [ei1, show (Int.fmod (Int.fdiv ns.sum 2) 6).toNat = tSig ns from rfl]
  obtain ⟨tv, htv⟩ := sig_strs _ _ _ _ _ _ (tSig ns) hi6
  refine r_item (v := .str (T (lSig (tSig ns))) tv) (by assumption) (by (repeat (first | exact List.Mem.head _ | apply List.Mem.tail))) (by rw [Int.toNat_natCast]; exact htv) (by (clear hlen hc1 hc2 hc3 hc4 hc5 h86 hh hr hu e1 ho' hvl ei1 ei2 em1 em2 et1 et2 hm2 ht4 htv; omega)) (by (clear hlen hc1 hc2 hc3 hc4 hc5 h86 hh hr hu e1 ho' hvl ei1 ei2 em1 em2 et1 et2 hm2 ht4 htv; omega)) ?_
  rename_i S2
  obtain ⟨x0, x1, hsg, hx0, hx1⟩ := lSig_two (tSig ns) hi6
  have hnear : lev [x0] [x1] 9 = lNear (tSig ns) := by
    have := near_ok (tSig ns) hi6
    rw [hsg] at this
    exact this
  rw [hsg]
  have S2 := (St.re (l' := [("total", .int ns.sum t1)]) S2 ⟨rfl, trivial⟩).drop (news' := (L + 2, o2) :: (L + 5, o5) :: (L + 4, o4) :: (L + 3, o3) :: (L + 1, o1) :: (86, tabObj #[]) :: []) (by repeat (first | exact sub_nil | refine sub_cons (by repeat (first | exact List.Mem.head _ | apply List.Mem.tail)) ?_ | (intro p hp; repeat (first | exact hp | apply List.Mem.tail))))
  refine r_storeCellE S2 rfl hc2 (.head ?_) ?_
  · exact ne_cons (ne_add (L := L) (i := 5) (j := 2) (by decide)) (ne_cons (ne_add (L := L) (i := 4) (j := 2) (by decide)) (ne_cons (ne_add (L := L) (i := 3) (j := 2) (by decide)) (ne_cons (ne_add (L := L) (i := 1) (j := 2) (by decide)) (ne_cons (Nat.ne_of_lt (Nat.lt_of_lt_of_le h86 (Nat.le_add_right L 2))) ne_nil))))
  intro s3 S3
  generalize hb2 : ({ o2 with data := .cell (some (.str (T [x0, x1]) tv)) } : Obj) = o2' at S3
  have hc2' : o2'.data = .cell (some (.str (T [x0, x1]) tv)) := by rw [← hb2]
  clear hb2 hc2 S2
  have hT2 : (T [x0, x1]).length ≤ 1000000 := by rw [T_len]; simp
  refine SeqQ.go ?_; refine r_cons ?_; refine wpAny_Assign_Name ?_; refine Call_ ?_
  refine r_globalE (by assumption) (by assumption) (gvlevenshteindistance _) ?_; refine r_callK (by assumption) (by assumption) (by rfl) ?_
  refine args_cons ?_; refine Subscript_ ?_
  refine r_cellE (by assumption) (by rfl) (by first | assumption | (repeat (first | exact List.Mem.head _ | apply List.Mem.tail))) (by assumption) ?_
  refine r_int (by assumption) ?_; intro _ _ _
  refine r_itemS (by assumption) hT2 (by rw [T_len]; simp) (by rw [T_len]; simp) ?_
  intro t4 s4 S4
  rw [show (0 : Int) = ((0 : Nat) : Int) from rfl, show Txt.item (T [x0, x1]) ((0 : Nat) : Int) = T [x0] from T_item [x0, x1] 0 (by simp)]
  refine args_cons ?_; refine Subscript_ ?_
  refine r_cellE (by assumption) (by rfl) (by first | assumption | (repeat (first | exact List.Mem.head _ | apply List.Mem.tail))) (by assumption) ?_
  refine r_int (by assumption) ?_; intro _ _ _
  refine r_itemS (by assumption) hT2 (by rw [T_len]; simp) (by rw [T_len]; simp) ?_
  intro t5 s5 S5
  rw [show (1 : Int) = ((1 : Nat) : Int) from rfl, show Txt.item (T [x0, x1]) ((1 : Nat) : Int) = T [x1] from T_item [x0, x1] 1 (by simp)]
  refine args_cons ?_; refine r_int (by assumption) ?_; intro _ _ _; refine args_nil ?_; refine k_and (by assumption) (by assumption) ?_
  refine lev_spec ?_ hh ?_ ?_ ?_ (by show 1 ≤ 40; decide) (by show 1 ≤ 40; decide) ?_
  · exact St.base (by assumption) B
  · show A.depth + 5 < _; exact dlt hr
  · intro z hz
    rcases List.mem_singleton.mp hz with rfl
    exact hx0
  · intro z hz
    rcases List.mem_singleton.mp hz with rfl
    exact hx1
  intro t6 s6 G6
  have S6 := St.after (by assumption) G6
  refine r_storeE S6 ?_
  intro s7 S7
  refine SeqQ.go (r_cons ?_)
  refine r_ifJ (fun s' => St g os h₀ L [("total", .int ns.sum t1)] ((L + 2, o2') :: (L + 5, o5) :: (L + 4, o4) :: (L + 3, o3) :: (L + 1, o1) :: (86, tabObj #[]) :: []) s') ?_ ?_
  · refine r_or ?_; refine wpAny_isTrue_Compare1 ?_; refine r_nameE (by assumption) (by rfl) ?_; refine r_ifexp ?_
    refine wpAny_isTrue_Compare1 ?_
    refine r_cellE (by assumption) (by rfl) (by first | assumption | (repeat (first | exact List.Mem.head _ | apply List.Mem.tail))) (by assumption) ?_
    refine r_str (by assumption) ?_; intro _ _ _; refine PyProof.Rows.eq_str ?_; refine wpAny_truthy_bool ?_
    rw [show (Str.ofString "aA" : Str) = T [97, 65] by decide +kernel, T_beq]
    refine Br.split (fun e => ?_) (fun e => ?_)
    · have e' : [x0, x1] = [97, 65] := by simpa using e
      refine r_int (by assumption) ?_; intro _ _ _; refine PyProof.Rows.ne_int ?_; refine wpAny_truthy_bool ?_
      refine Br.neg (by rw [hnear]; simp [lNear, hsg, e']) ?_
      refine r_or ?_; refine isTrue_plain ?_; refine Call_ ?_
      refine r_builtinE (by assumption) (by assumption) (by rfl) (by first | reg3_boot | boot_fact) (by decide) ?_
      refine PyProof.Rows.callWith_builtin1 ?_; refine args_cons ?_; refine r_nameE (by assumption) (by rfl) ?_; refine args_cons ?_
      refine r_builtinE (by assumption) (by assumption) (by rfl) (by first | reg3_boot | boot_fact) (by decide) ?_; refine args_nil ?_
      refine r_isiBool (by assumption) ?_
      intro s9 S9
      refine wpAny_truthy_bool ?_
      refine Br.f ?_
      refine isTrue_or_nil ?_
      refine Br.f ?_
      refine r_nil ?_
      exact ⟨rfl, St.re S9 ⟨rfl, trivial⟩⟩
    · have e' : ¬ [x0, x1] = [97, 65] := by simpa using e
      refine r_int (by assumption) ?_; intro _ _ _; refine PyProof.Rows.ne_int ?_; refine wpAny_truthy_bool ?_
      refine Br.neg (by rw [hnear]; simp only [lNear, hsg, if_neg e']; decide) ?_
      refine r_or ?_; refine isTrue_plain ?_; refine Call_ ?_
      refine r_builtinE (by assumption) (by assumption) (by rfl) (by first | reg3_boot | boot_fact) (by decide) ?_
      refine PyProof.Rows.callWith_builtin1 ?_; refine args_cons ?_; refine r_nameE (by assumption) (by rfl) ?_; refine args_cons ?_
      refine r_builtinE (by assumption) (by assumption) (by rfl) (by first | reg3_boot | boot_fact) (by decide) ?_; refine args_nil ?_
      refine r_isiBool (by assumption) ?_
      intro s9 S9
      refine wpAny_truthy_bool ?_
      refine Br.f ?_
      refine isTrue_or_nil ?_
      refine Br.f ?_
      refine r_nil ?_
      exact ⟨rfl, St.re S9 ⟨rfl, trivial⟩⟩
  · intro s8 S8
    refine SeqQ.go ?_; refine r_cons ?_; refine wpAny_Assign_Name ?_; refine MethodCall_ ?_; refine r_str (by assumption) ?_; intro _ _ _
    refine GM.join ?_; refine PyProof.Rows.callWith_method1 ?_; refine args_cons ?_
    refine r_comp (cl := [("signs", L + 2), ("script", L + 1)]) rfl (by decide) rfl (by decide) (fun _ => rfl) ?_
    refine Call_ ?_; refine r_builtinE (by assumption) (by assumption) (by rfl) (by first | reg3_boot | boot_fact) (by decide) ?_
    refine PyProof.Rows.callWith_type1 ?_; refine args_cons ?_; refine r_int (by assumption) ?_; intro _ _ _; refine args_nil ?_
    refine r_range1 (by assumption) ?_; intro _ _ _ _ _ _ _
    refine r_iterRange (by assumption) (.head _) (by decide) ?_
    intro I s9 hI S9
    rw [show Builtin.Range.rangeSize 0 4 1 = ((4 : Nat) : Int) by decide] at S9
    apply comp_iter (Iter.range (by exact hh) I 4) (R := fun k v => TV [[x0, x1].getD (cBit ns k) 0] v) (p := fun _ => true) (hL₀ := rfl) (S := S9) (hI := by show rangeIt _ _ _ = rangeIt _ _ _; simp) (hd := hI) (hlen := by simp) (hk := rfl) (hx := rfl)
    · intro i c v C' N l' s₃ _ _ _ S3 Q hQ
      exact ifs_nil (hQ _ S3)
    · rintro i k v C' N l' s₃ hc ⟨tk, rfl⟩ _ hN S3 Q hQ
      have hm2 : (L + 2, o2') ∈ N := hN _ (by (repeat (first | exact List.Mem.head _ | apply List.Mem.tail)))
      have hm1 : (L + 1, o1) ∈ N := hN _ (by (repeat (first | exact List.Mem.head _ | apply List.Mem.tail)))
      obtain ⟨eb1, eb2⟩ := fm_of (cSum ns k) 2 (by decide)
      have hb2 : cBit ns k < 2 := eb2
      refine Subscript_ ?_
      refine r_cellE (by assumption) (by rfl) (by first | assumption | (repeat (first | exact List.Mem.head _ | apply List.Mem.tail))) (by assumption) ?_
      refine wpAny_BinOp ?_; refine wpAny_BinOp ?_; refine wpAny_Compare1 ?_; refine r_nameE (by assumption) (by rfl) ?_
      refine r_int (by assumption) ?_; intro _ _ _; refine PyProof.Rows.eq_int ?_; refine Call_ ?_
      refine r_builtinE (by assumption) (by assumption) (by rfl) (by first | reg3_boot | boot_fact) (by decide) ?_
      refine PyProof.Rows.callWith_builtin1 ?_; refine args_cons ?_; refine Subscript_ ?_
      refine r_cellE (by assumption) (by rfl) (by first | assumption | (repeat (first | exact List.Mem.head _ | apply List.Mem.tail))) (by assumption) ?_
      refine r_slice ?_; refine r_part1 ?_; refine r_nameE (by assumption) (by rfl) ?_; refine r_part0 ?_; refine r_part1 ?_
      refine r_int (by assumption) ?_; intro _ _ _
      refine r_sliceStep (by assumption) hsc hi (by decide) (by (clear hc1 hc3 hc4 hc5 h86 hh hr hu e1 ho' ei1 ei2 em1 em2 et1 et2 hi6 ht4 htv hsg hx0 hx1 hnear hc2' hT2 hc eb1 eb2 hb2; omega)) ?_
      intro D ys s10 hD hys S10
      refine args_nil ?_
      refine r_sum (vs := ys) hh S10 (PySem.IsL.isList (n := 0) (S10.nw _ (.head _)).1) hys ?_
      intro t11 s11 S11
      refine r_addBI (y := cSum ns k) S11 ?_ ?_
      · unfold cSum
        by_cases hk1 : k = 1
        · subst hk1; simp
        · rw [if_neg hk1, if_neg (by simp; (clear hlen hc1 hc3 hc4 hc5 h86 hh hr hu e1 ho' hvl ei1 ei2 em1 em2 et1 et2 hi6 ht4 htv hsg hx0 hx1 hnear hc2' hT2 hc eb1 eb2 hb2; omega))]
      intro t12 s12 S12
      refine r_int (by assumption) ?_; intro _ _ _; refine r_mod (by assumption) (by decide) ?_; intro _ _ _
      rw [eb1, show (Int.fmod (cSum ns k) 2).toNat = cBit ns k from rfl]
      refine r_itemS (by assumption) hT2 (by (clear hlen hc1 hc3 hc4 hc5 h86 hh hr hu e1 ho' hvl ei1 ei2 em1 em2 et1 et2 hi6 ht4 htv hsg hx0 hx1 hnear hc2' hc eb1 eb2; omega)) (by rw [T_len]; simp only [List.length_cons, List.length_nil]; (clear hlen hc1 hc3 hc4 hc5 h86 hh hr hu e1 ho' hvl ei1 ei2 em1 em2 et1 et2 hi6 ht4 htv hsg hx0 hx1 hnear hc2' hT2 hc eb1 eb2; omega)) ?_
      intro t13 s13 S13
      rw [T_item [x0, x1] (cBit ns k) (by simpa using hb2)]
      have S14 := S13.drop (news' := N) (fun p hp => by simp only [List.mem_cons]; simp only [hp, or_true])
      refine hQ _ _ ⟨t13, ?_⟩ S14
      rw [List.getD_eq_getElem?_getD, List.getElem?_eq_getElem (by simpa using hb2)]; rfl
    intro C' D ys ep hR hDb _ s10 S10
    rw [List.filter_eq_self.mpr (fun _ _ => rfl)] at hR
    refine args_nil ?_; change wpAny _ _ (call _ [_, _]) _ _ _
    rw [em_eq]
    refine r_join (by assumption) (.head _) hR.map (by
      have := flat_len 1 ((List.range 4).map fun k => [[x0, x1].getD (cBit ns k) 0]) (fun x hx => by obtain ⟨k, _, rfl⟩ := List.mem_map.mp hx; exact Nat.le_refl _)
      rw [List.length_map, List.length_range] at this; (clear hlen hc1 hc3 hc4 hc5 h86 hh hr hu e1 ho' hvl ei1 ei2 em1 em2 et1 et2 hi6 hm2 ht4 htv hsg hx0 hx1 hnear hc2' hT2; omega)) ?_
    intro t11 s11 S11
    have hrow : ((List.range 4).map fun k => [[x0, x1].getD (cBit ns k) 0]).flatten = lRow (tSig ns) (cBit ns 0) (cBit ns 1) (cBit ns 2) (cBit ns 3) := by
      rw [lRow, hsg]; rfl
    rw [hrow]
    have hb : ∀ k, cBit ns k < 2 := fun k => (fm_of (cSum ns k) 2 (by decide)).2
    have hloop' := hloop (tSig ns) hi6 _ (hb 0) _ (hb 1) _ (hb 2) _ (hb 3)
    have hlex' := hlexO (tSig ns) hi6 _ (hb 0) _ (hb 1) _ (hb 2) _ (hb 3) (tMark ns) hm2 (tTurn ns) ht4
    have hrl : (lRow (tSig ns) (cBit ns 0) (cBit ns 1) (cBit ns 2) (cBit ns 3)).length = 4 := rfl
    have hrc : ∀ c ∈ lRow (tSig ns) (cBit ns 0) (cBit ns 1) (cBit ns 2) (cBit ns 3), c < 128 := by
      have hg : ∀ b, [x0, x1].getD b 0 < 128 := fun b => getD_lt _ _ (fun x hx => by
        simp only [List.mem_cons, List.not_mem_nil, or_false] at hx
        rcases hx with rfl | rfl <;> assumption)
      intro c hc
      rw [lRow, hsg] at hc
      simp only [List.mem_cons, List.not_mem_nil, or_false] at hc
      rcases hc with rfl | rfl | rfl | rfl <;> exact hg _
    generalize lRow (tSig ns) (cBit ns 0) (cBit ns 1) (cBit ns 2) (cBit ns 3) = row at *
    have hws : (Str.ofString " \n\t\r" : Str).length ≤ 1000000 := by decide +kernel
    refine r_storeE (by assumption) ?_; intro _ _; refine SeqQ.go ?_; refine r_cons ?_; refine wpAny_Assign_Name ?_; refine wpAny_BinOp ?_
    refine r_str (by assumption) ?_; intro _ _ _; refine wpAny_BinOp ?_; refine wpAny_BinOp ?_; refine r_nameE (by assumption) (by rfl) ?_
    refine r_int (by assumption) ?_; intro _ _ _; refine r_fdiv (by assumption) (by decide) (by decide) ?_; intro _ _ _
    refine r_int (by assumption) ?_; intro _ _ _; refine r_mod (by assumption) (by decide) ?_; intro _ _ _
    rw [dq_eq, em1, show (Int.fmod (Int.fdiv ns.sum 12) 2).toNat = tMark ns from rfl]
    refine r_mulS (by assumption) hm2 ?_
    intro t12 s12 S12
    refine r_storeE (by assumption) ?_; intro _ _; refine SeqQ.go ?_; refine r_cons ?_; refine wpAny_Assign_Name ?_; refine wpAny_BinOp ?_
    refine wpAny_BinOp ?_; refine r_nameE (by assumption) (by rfl) ?_; refine r_int (by assumption) ?_; intro _ _ _
    refine r_fdiv (by assumption) (by decide) (by decide) ?_; intro _ _ _; refine r_int (by assumption) ?_; intro _ _ _
    refine r_mod (by assumption) (by decide) ?_; intro _ _ _; refine r_storeE (by assumption) ?_; intro _ _; refine SeqQ.go ?_; refine r_cons ?_
    refine wpAny_Assign_Name ?_; refine wpAny_BinOp ?_; refine Subscript_ ?_; refine r_str (by assumption) ?_; intro _ _ _; refine r_slice ?_
    refine r_part1 ?_; refine r_nameE (by assumption) (by rfl) ?_; refine r_part0 ?_; refine r_part0 ?_
    refine r_sliceS_sn (by assumption) (by assumption) ?_; intro _ _ _; refine Subscript_ ?_; refine r_str (by assumption) ?_; intro _ _ _
    refine r_slice ?_; refine r_part0 ?_; refine r_part1 ?_; refine r_nameE (by assumption) (by rfl) ?_; refine r_part0 ?_
    refine r_sliceS_ns (by assumption) (by assumption) ?_; intro _ _ _
    rw [et1, show (Int.fmod (Int.fdiv ns.sum 24) 4).toNat = tTurn ns from rfl, show (Str.ofString " \n\t\r" : Str) = T lWs by decide +kernel, T_slice_lo, T_slice_hi]
    refine r_adds (by assumption) (by rw [T_len, T_len, List.length_drop, List.length_take, sizeLine_eq]; simp only [lWs, List.length_cons, List.length_nil]; (clear hlen hc1 hc3 hc4 hc5 h86 hh hr hu e1 ho' hvl ei1 ei2 em1 em2 et1 et2 hi6 hm2 htv hsg hx0 hx1 hnear hc2' hT2 hrow hloop' hlex' hrl hws; omega)) ?_
    intro t13 s13 S13
    rw [T_append, show lWs.drop (tTurn ns) ++ lWs.take (tTurn ns) = lWhite (tTurn ns) from rfl]
    refine r_storeE (by assumption) ?_; intro _ _; refine SeqQ.go ?_; refine r_cons ?_; refine wpAny_Assign_Name ?_; refine Call_ ?_
    refine r_globalE (by assumption) (by assumption) (gvlawlexer _) ?_; refine r_callK (by assumption) (by assumption) (by rfl) ?_
    refine args_cons ?_; refine wpAny_BinOp ?_; refine wpAny_BinOp ?_; refine wpAny_BinOp ?_; refine wpAny_BinOp ?_; refine wpAny_BinOp ?_
    refine r_nameE (by assumption) (by rfl) ?_; refine Call_ ?_; refine r_globalE (by assumption) (by assumption) (gvlawspelled _) ?_
    refine r_callK (by assumption) (by assumption) (by rfl) ?_; refine args_cons ?_; refine r_nameE (by assumption) (by rfl) ?_
    refine args_cons ?_; refine r_str (by assumption) ?_; intro _ _ _; refine args_nil ?_; refine k_and (by assumption) (by assumption) ?_
    rw [show (Str.ofString "\"\\ " : Str) = T [34, 92, 32] by decide +kernel]
    refine spelled_spec ?_ hh ?_ hrc (by (clear hlen hc1 hc3 hc4 hc5 h86 hh hr hu e1 ho' hvl ei1 ei2 em1 em2 et1 et2 hi6 hm2 ht4 htv hsg hx0 hx1 hnear hc2' hT2 hrow hloop' hlex' hws; omega)) ?_
    · exact St.base (by assumption) B
    · show A.depth + 10 < _; exact dlt hr
    intro t14 s14 G14
    have S14 := St.after (by assumption) G14
    have hspl : (spl [34, 92, 32] row).length ≤ 2 * 4 := by
      have := flat_len 2 (row.map fun c => if [34, 92, 32].contains c then [92, c] else [c]) (fun x hx => by
        obtain ⟨c, _, rfl⟩ := List.mem_map.mp hx
        split <;> simp)
      rw [List.length_map, hrl] at this
      exact this
    have hmk : (lMark (tMark ns)).length ≤ 1 := by unfold lMark; split <;> simp
    have hwh : (lWhite (tTurn ns)).length ≤ 8 := by
      unfold lWhite; rw [List.length_append, List.length_drop, List.length_take]; simp only [lWs, List.length_cons, List.length_nil]; (clear hlen hc1 hc3 hc4 hc5 h86 hh hr hu e1 ho' hvl ei1 ei2 em1 em2 et1 et2 hi6 hm2 htv hsg hx0 hx1 hnear hc2' hT2 hrow hloop' hlex' hrl hws hspl hmk; omega)
    skip
    refine r_adds (by assumption) (by rw [T_len, T_len, sizeLine_eq]; (clear hlen hc1 hc3 hc4 hc5 h86 hh hr hu e1 ho' hvl ei1 ei2 em1 em2 et1 et2 hi6 hm2 ht4 htv hsg hx0 hx1 hnear hc2' hT2 hrow hloop' hlex' hrl hws hwh; omega)) ?_
    intro t15 s15 S15
    rw [T_append]
    refine r_nameE (by assumption) (by rfl) ?_
    refine r_adds (by assumption) (by rw [T_len, T_len, sizeLine_eq, List.length_append]; (clear hlen hc1 hc3 hc4 hc5 h86 hh hr hu e1 ho' hvl ei1 ei2 em1 em2 et1 et2 hi6 hm2 ht4 htv hsg hx0 hx1 hnear hc2' hT2 hrow hloop' hlex' hrl hws hwh; omega)) ?_
    intro t16 s16 S16
    rw [T_append]
    refine r_nameE (by assumption) (by rfl) ?_
    refine r_adds (by assumption) (by rw [T_len, T_len, sizeLine_eq]; simp only [List.length_append]; (clear hlen hc1 hc3 hc4 hc5 h86 hh hr hu e1 ho' hvl ei1 ei2 em1 em2 et1 et2 hi6 hm2 ht4 htv hsg hx0 hx1 hnear hc2' hT2 hrow hloop' hlex' hrl hws; omega)) ?_
    intro t17 s17 S17
    rw [T_append]
    refine r_nameE (by assumption) (by rfl) ?_
    refine r_adds (by assumption) (by rw [T_len, T_len, sizeLine_eq]; simp only [List.length_append]; (clear hlen hc1 hc3 hc4 hc5 h86 hh hr hu e1 ho' hvl ei1 ei2 em1 em2 et1 et2 hi6 hm2 ht4 htv hsg hx0 hx1 hnear hc2' hT2 hrow hloop' hlex' hrl hws; omega)) ?_
    intro t18 s18 S18
    rw [T_append]
    refine r_str (by assumption) ?_; intro _ _ _
    rw [show (Str.ofString "end" : Str) = T [101, 110, 100] by decide +kernel]
    refine r_adds (by assumption) (by rw [T_len, T_len, sizeLine_eq]; simp only [List.length_append, List.length_cons, List.length_nil]; (clear hlen hc1 hc3 hc4 hc5 h86 hh hr hu e1 ho' hvl ei1 ei2 em1 em2 et1 et2 hi6 hm2 ht4 htv hsg hx0 hx1 hnear hc2' hT2 hrow hloop' hlex' hrl hws; omega)) ?_
    intro t19 s19 S19
    rw [T_append, show lMark (tMark ns) ++ spl [34, 92, 32] row ++ lMark (tMark ns) ++ lWhite (tTurn ns) ++ lMark (tMark ns) ++ [101, 110, 100] = lText row (tMark ns) (tTurn ns) from rfl]
    refine args_nil ?_; refine k_and (by assumption) (by assumption) ?_
    have hlt : (lText row (tMark ns) (tTurn ns)).length ≤ 1000 := by unfold lText; simp only [List.length_append, List.length_cons, List.length_nil]; (clear hlen hc1 hc3 hc4 hc5 h86 hh hr hu e1 ho' hvl ei1 ei2 em1 em2 et1 et2 hi6 hm2 ht4 htv hsg hx0 hx1 hnear hc2' hT2 hrow hloop' hlex' hrl hws; omega)
    generalize hText : lText row (tMark ns) (tTurn ns) = text at *
    have S20 := S19.drop (news' := (86, tabObj #[]) :: (L + 5, o5) :: (L + 4, o4) :: (L + 3, o3) :: (L + 2, o2') :: (L + 1, o1) :: []) (by repeat (first | exact sub_nil | refine sub_cons (by repeat (first | exact List.Mem.head _ | apply List.Mem.tail)) ?_ | (intro p hp; repeat (first | exact hp | apply List.Mem.tail))))
    refine lexer_spec S20 B TX C (by (clear hlen hc1 hc3 hc4 hc5 h86 hh hu e1 ho' hvl ei1 ei2 em1 em2 et1 et2 hi6 hm2 ht4 htv hsg hx0 hx1 hnear hc2' hT2 hrow hloop' hlex' hrl hws hspl hmk hwh hText hlt; omega)) hlt ?_ ?_
    · exact (ne_cons (Nat.ne_of_gt (Nat.lt_of_lt_of_le h86 (Nat.le_add_right _ _))) (ne_cons (Nat.ne_of_gt (Nat.lt_of_lt_of_le h86 (Nat.le_add_right _ _))) (ne_cons (Nat.ne_of_gt (Nat.lt_of_lt_of_le h86 (Nat.le_add_right _ _))) (ne_cons (Nat.ne_of_gt (Nat.lt_of_lt_of_le h86 (Nat.le_add_right _ _))) (ne_cons (Nat.ne_of_gt (Nat.lt_of_lt_of_le h86 (Nat.le_add_right _ _))) ne_nil)))))
    intro a σ ps s21 O hσp hσl hσb hcT S21
    have hcT5 : L + 5 < a.cT := hcT (L + 5, o5) (.tail _ (.head _))
    refine r_storeE (by assumption) ?_; intro _ _; refine SeqQ.go ?_; refine r_cons ?_; refine wpAny_Assign_Name ?_; refine Call_ ?_
    refine r_globalE (by assumption) (by assumption) (gvlawways _) ?_; refine r_callK (by assumption) (by assumption) (by rfl) ?_
    refine args_cons ?_; refine r_nameE (by assumption) (by rfl) ?_; refine args_nil ?_; refine k_and (by assumption) (by assumption) ?_
    rename_i s22 S22
    have S22 := St.re (l' := [("lexer", .ref a.X), ("row", .str (T row) t11)]) S22 ⟨rfl, rfl, trivial⟩
    refine ways_spec (St.base S22 B) hh (by (clear hlen hc1 hc3 hc4 hc5 h86 hh hu e1 ho' hvl ei1 ei2 em1 em2 et1 et2 hi6 hm2 ht4 htv hsg hx0 hx1 hnear hc2' hT2 hrow hloop' hlex' hrl hws hspl hmk hwh hText hlt hσp hσl hσb hcT5; omega)) hrc (by (clear hlen hc1 hc3 hc4 hc5 h86 hh hr hu e1 ho' hvl ei1 ei2 em1 em2 et1 et2 hi6 hm2 ht4 htv hsg hx0 hx1 hnear hc2' hT2 hrow hloop' hlex' hws hspl hmk hwh hText hlt hσp hσl hσb hcT5; omega)) ?_
    intro D oD kvs s23 G23 hDsz hDn hDg hDd hDs hDr
    obtain ⟨D, eD⟩ : ∃ n : Nat, n = D := ⟨D, rfl⟩
    subst eD
    have S23 := S22.afterG G23
    have hbare23 : AllBare s23.gens := G23.bare (by rw [S22.gens]; exact hbare)
    have hPB : a.PB < s22.heap.objs.size := S22.lt (p := (a.PB, listOf σ.pb.toArray σ.pe)) (by (repeat (first | exact List.Mem.head _ | apply List.Mem.tail)))
    have hPBD : a.PB < D := Nat.lt_of_lt_of_le hPB hDsz
    have S24 : St s23.gens os h₀ L [("lexer", .ref a.X), ("row", .str (T row) t11)] ((D, oD) :: lexN a σ ((86, tabObj ps) :: (L + 5, o5) :: (L + 4, o4) :: (L + 3, o3) :: (L + 2, o2') :: (L + 1, o1) :: [])) s23 := by
      refine ⟨S23.fr, fun p hp => ?_, S23.gens, S23.os⟩
      rcases List.mem_cons.mp hp with rfl | hp
      · refine ⟨hDg, Nat.ne_of_gt (Nat.lt_of_lt_of_le S22.Llt hDsz), ?_⟩
        cases q : h₀.get? D with
        | none => rfl
        | some o' => have := S22.keep _ _ q; rw [hDn] at this; cases this
      · exact S23.nw p hp
    refine r_storeE (by assumption) ?_; intro _ _; refine SeqQ.go ?_; refine r_cons ?_; refine wpAny_Assign_Name ?_; refine List_ ?_
    refine args_cons ?_; refine r_nameE (by assumption) (by rfl) ?_; refine args_nil ?_
    refine r_newList (by assumption) (by simp) ?_; intro _ _ _ _
    rename_i Wd s25 hWd S25
    obtain ⟨Wd, eW⟩ : ∃ n : Nat, n = Wd := ⟨Wd, rfl⟩
    subst eW
    have hDW : D < Wd := hWd (D, oD) (.head _)
    obtain ⟨r1, r2, r3, r4, r5, r6, r7, r8, r9⟩ := O.ord
    have S26 := S25.drop (news' := (L + 3, o3) :: (Wd, listOf [Value.str (T row) t11].toArray 0) :: (D, oD) :: (L + 5, o5) :: (L + 4, o4) :: (L + 2, o2') :: (L + 1, o1) :: (86, tabObj ps) :: lexN a σ []) (by repeat (first | exact sub_nil | refine sub_cons (by repeat (first | exact List.Mem.head _ | apply List.Mem.tail)) ?_ | (intro p hp; repeat (first | exact hp | apply List.Mem.tail))))
    have fL_2 : L + 2 < L + 3 := (Nat.lt_succ_self _)
    have fL_1 : L + 1 < L + 3 := Nat.lt_trans (Nat.lt_succ_self _) fL_2
    have fL : L < L + 3 := Nat.lt_trans (Nat.lt_succ_self _) fL_1
    have fe86 : 86 < L + 3 := Nat.lt_trans h86 fL
    have fL_4 : L + 3 < L + 4 := (Nat.lt_succ_self _)
    have fL_5 : L + 3 < L + 5 := Nat.lt_trans fL_4 (Nat.lt_succ_self _)
    have fcT : L + 3 < a.cT := Nat.lt_trans fL_5 hcT5
    have fcP : L + 3 < a.cP := Nat.lt_trans fcT r1
    have fpl : L + 3 < a.pl := Nat.lt_trans fcP r2
    have fcR : L + 3 < a.cR := Nat.lt_trans fpl r3
    have ffR : L + 3 < a.fR := Nat.lt_trans fcR r4
    have ffL : L + 3 < a.fL := Nat.lt_trans ffR r5
    have fdL : L + 3 < a.dL := Nat.lt_trans ffL r6
    have fdX : L + 3 < a.dX := Nat.lt_trans fdL r7
    have fX : L + 3 < a.X := Nat.lt_trans fdX r8
    have fPB : L + 3 < a.PB := Nat.lt_trans fX r9
    have fD : L + 3 < D := Nat.lt_trans fPB hPBD
    have fWd : L + 3 < Wd := Nat.lt_trans fD hDW
    refine r_storeCellE S26 rfl hc3 (.head ?_) ?_
    · exact ne_cons (Nat.ne_of_gt fWd) (ne_cons (Nat.ne_of_gt fD) (ne_cons (Nat.ne_of_gt fL_5) (ne_cons (Nat.ne_of_gt fL_4) (ne_cons (Nat.ne_of_lt fL_2) (ne_cons (Nat.ne_of_lt fL_1) (ne_cons (Nat.ne_of_lt fe86) (ne_cons (Nat.ne_of_gt fpl) (ne_cons (Nat.ne_of_gt fdX) (ne_cons (Nat.ne_of_gt fPB) (ne_cons (Nat.ne_of_gt fX) (ne_cons (Nat.ne_of_gt ffL) (ne_cons (Nat.ne_of_gt fdL) (ne_cons (Nat.ne_of_gt ffR) (ne_cons (Nat.ne_of_gt fcR) (ne_cons (Nat.ne_of_gt fcT) (ne_cons (Nat.ne_of_gt fcP) ne_nil))))))))))))))))
    clear fL_2 fL_1 fL fe86 fL_4 fL_5 fcT fcP fpl fcR ffR ffL fdL fdX fX fPB fD fWd
    intro s27 S27
    generalize hb3 : ({ o3 with data := .cell (some (.ref Wd)) } : Obj) = o3' at S27
    have hc3' : o3'.data = .cell (some (.ref Wd)) := by rw [← hb3]
    clear hb3 hc3 S26
    refine SeqQ.go ?_; refine r_cons ?_; refine wpAny_Assign_Name ?_; refine List_ ?_; refine args_nil ?_
    refine r_newList (by assumption) (by simp) ?_; intro _ _ _ _
    rename_i Nd s28 hNd S28
    obtain ⟨Nd, eN⟩ : ∃ n : Nat, n = Nd := ⟨Nd, rfl⟩
    subst eN
    have hWN : Wd < Nd := hNd (Wd, listOf [Value.str (T row) t11].toArray 0) (.tail _ (.head _))
    have S29 := S28.drop (news' := (L + 4, o4) :: (L + 3, o3') :: (Wd, listOf [Value.str (T row) t11].toArray 0) :: (Nd, listOf ([] : List Value).toArray 0) :: (D, oD) :: (L + 5, o5) :: (L + 2, o2') :: (L + 1, o1) :: (86, tabObj ps) :: lexN a σ []) (by repeat (first | exact sub_nil | refine sub_cons (by repeat (first | exact List.Mem.head _ | apply List.Mem.tail)) ?_ | (intro p hp; repeat (first | exact hp | apply List.Mem.tail))))
    have fL_3 : L + 3 < L + 4 := (Nat.lt_succ_self _)
    have fL_2 : L + 2 < L + 4 := Nat.lt_trans (Nat.lt_succ_self _) fL_3
    have fL_1 : L + 1 < L + 4 := Nat.lt_trans (Nat.lt_succ_self _) fL_2
    have fL : L < L + 4 := Nat.lt_trans (Nat.lt_succ_self _) fL_1
    have fe86 : 86 < L + 4 := Nat.lt_trans h86 fL
    have fL_5 : L + 4 < L + 5 := (Nat.lt_succ_self _)
    have fcT : L + 4 < a.cT := Nat.lt_trans fL_5 hcT5
    have fcP : L + 4 < a.cP := Nat.lt_trans fcT r1
    have fpl : L + 4 < a.pl := Nat.lt_trans fcP r2
    have fcR : L + 4 < a.cR := Nat.lt_trans fpl r3
    have ffR : L + 4 < a.fR := Nat.lt_trans fcR r4
    have ffL : L + 4 < a.fL := Nat.lt_trans ffR r5
    have fdL : L + 4 < a.dL := Nat.lt_trans ffL r6
    have fdX : L + 4 < a.dX := Nat.lt_trans fdL r7
    have fX : L + 4 < a.X := Nat.lt_trans fdX r8
    have fPB : L + 4 < a.PB := Nat.lt_trans fX r9
    have fD : L + 4 < D := Nat.lt_trans fPB hPBD
    have fWd : L + 4 < Wd := Nat.lt_trans fD hDW
    have fNd : L + 4 < Nd := Nat.lt_trans fWd hWN
    refine r_storeCellE S29 rfl hc4 (.head ?_) ?_
    · exact ne_cons (Nat.ne_of_lt fL_3) (ne_cons (Nat.ne_of_gt fWd) (ne_cons (Nat.ne_of_gt fNd) (ne_cons (Nat.ne_of_gt fD) (ne_cons (Nat.ne_of_gt fL_5) (ne_cons (Nat.ne_of_lt fL_2) (ne_cons (Nat.ne_of_lt fL_1) (ne_cons (Nat.ne_of_lt fe86) (ne_cons (Nat.ne_of_gt fpl) (ne_cons (Nat.ne_of_gt fdX) (ne_cons (Nat.ne_of_gt fPB) (ne_cons (Nat.ne_of_gt fX) (ne_cons (Nat.ne_of_gt ffL) (ne_cons (Nat.ne_of_gt fdL) (ne_cons (Nat.ne_of_gt ffR) (ne_cons (Nat.ne_of_gt fcR) (ne_cons (Nat.ne_of_gt fcT) (ne_cons (Nat.ne_of_gt fcP) ne_nil)))))))))))))))))
    clear fL_3 fL_2 fL_1 fL fe86 fL_5 fcT fcP fpl fcR ffR ffL fdL fdX fX fPB fD fWd fNd
    intro s30 S30
    generalize hb4 : ({ o4 with data := .cell (some (.ref Nd)) } : Obj) = o4' at S30
    have hc4' : o4'.data = .cell (some (.ref Nd)) := by rw [← hb4]
    clear hb4 hc4 S29
    have hlx : (gt text 1).1 = row ∧ (gt (gt text 1).2.1 (gt text 1).2.2).1 = [101, 110, 100] ∧ (gt (gt (gt text 1).2.1 (gt text 1).2.2).2.1 (gt (gt text 1).2.1 (gt text 1).2.2).2.2).1 = [] ∧ (gt (gt (gt text 1).2.1 (gt text 1).2.2).2.1 (gt (gt text 1).2.1 (gt text 1).2.2).2.2).2.2 = 2 := by
      have := hlex'
      unfold lexOkB at this
      rw [hText] at this
      simpa [and_assoc] using this
    have S31 : St s23.gens os h₀ L _ (lawN a σ L Wd Nd D [Value.str (T row) t11] [] 0 0 oD o1 o2' o3' o4' o5 ps) s30 := S30.drop (by repeat (first | exact sub_nil | refine sub_cons (by repeat (first | exact List.Mem.head _ | apply List.Mem.tail)) ?_))
    refine SeqQ.go ?_
    exact law_tail (W := ways row) ho' O S31 rfl rfl hc5 hc4' hc3' hDd hDr hDs (.cons ⟨t11, rfl⟩ .nil) ⟨by (clear hlen hc1 hc5 h86 hh hr hu e1 ho' hvl ei1 ei2 em1 em2 et1 et2 hi6 hm2 ht4 htv hsg hx0 hx1 hnear hc2' hT2 hrow hloop' hlex' hws hspl hmk hwh hText hlt hσp hσl hσb hcT5 hDsz hDn hDg hDs hPB hPBD hDW r1 r2 r3 r4 r5 r6 r7 r8 r9 hc3' hWN hc4' hlx; omega), hrc⟩ (by rw [hσp]; rfl) hσl hσb hlx hloop' ⟨h86, hcT5, hPBD, hDW, hWN⟩ B hh (by (clear hlen hc1 hc5 h86 hh hu e1 ho' hvl ei1 ei2 em1 em2 et1 et2 hi6 hm2 ht4 htv hsg hx0 hx1 hnear hc2' hT2 hrow hloop' hlex' hrl hws hspl hmk hwh hText hlt hσp hσl hσb hcT5 hDsz hDn hDg hDs hPB hPBD hDW r1 r2 r3 r4 r5 r6 r7 r8 r9 hc3' hWN hc4' hlx; omega)) hu (fun s' l' news' hm S' => h _ _ _ _ _ hbare23 hm S')
end
end Mine
end
section
open PySem PySem.W PyProof.Rows PySem.Calls
set_option Elab.async false
set_option maxRecDepth 1000000
set_option maxHeartbeats 1000000
set_option linter.unusedVariables false
namespace Mine
theorem loop_0 : ∀ b0, b0 < 2 → ∀ b1, b1 < 2 → ∀ b2, b2 < 2 → ∀ b3, b3 < 2 → loopOkB (lRow 0 b0 b1 b2 b3) = true := by decide +kernel
theorem loop_1 : ∀ b0, b0 < 2 → ∀ b1, b1 < 2 → ∀ b2, b2 < 2 → ∀ b3, b3 < 2 → loopOkB (lRow 1 b0 b1 b2 b3) = true := by decide +kernel
theorem loop_2 : ∀ b0, b0 < 2 → ∀ b1, b1 < 2 → ∀ b2, b2 < 2 → ∀ b3, b3 < 2 → loopOkB (lRow 2 b0 b1 b2 b3) = true := by decide +kernel
theorem loop_3 : ∀ b0, b0 < 2 → ∀ b1, b1 < 2 → ∀ b2, b2 < 2 → ∀ b3, b3 < 2 → loopOkB (lRow 3 b0 b1 b2 b3) = true := by decide +kernel
theorem loop_4 : ∀ b0, b0 < 2 → ∀ b1, b1 < 2 → ∀ b2, b2 < 2 → ∀ b3, b3 < 2 → loopOkB (lRow 4 b0 b1 b2 b3) = true := by decide +kernel
theorem loop_5 : ∀ b0, b0 < 2 → ∀ b1, b1 < 2 → ∀ b2, b2 < 2 → ∀ b3, b3 < 2 → loopOkB (lRow 5 b0 b1 b2 b3) = true := by decide +kernel
theorem loop_all : ∀ i, i < 6 → ∀ b0, b0 < 2 → ∀ b1, b1 < 2 → ∀ b2, b2 < 2 → ∀ b3, b3 < 2 → loopOkB (lRow i b0 b1 b2 b3) = true := fun i hi => match i, hi with
  | 0, _ => loop_0
  | 1, _ => loop_1
  | 2, _ => loop_2
  | 3, _ => loop_3
  | 4, _ => loop_4
  | 5, _ => loop_5
set_option synthInstance.maxHeartbeats 400000 in
set_option synthInstance.maxSize 1000 in
theorem lex_0 : ∀ b0, b0 < 2 → ∀ b1, b1 < 2 → ∀ b2, b2 < 2 → ∀ b3, b3 < 2 → ∀ m, m < 2 → ∀ t, t < 4 → lexOkB (lRow 0 b0 b1 b2 b3) m t = true := by decide +kernel
set_option synthInstance.maxHeartbeats 400000 in
set_option synthInstance.maxSize 1000 in
theorem lex_1 : ∀ b0, b0 < 2 → ∀ b1, b1 < 2 → ∀ b2, b2 < 2 → ∀ b3, b3 < 2 → ∀ m, m < 2 → ∀ t, t < 4 → lexOkB (lRow 1 b0 b1 b2 b3) m t = true := by decide +kernel
set_option synthInstance.maxHeartbeats 400000 in
set_option synthInstance.maxSize 1000 in
theorem lex_2 : ∀ b0, b0 < 2 → ∀ b1, b1 < 2 → ∀ b2, b2 < 2 → ∀ b3, b3 < 2 → ∀ m, m < 2 → ∀ t, t < 4 → lexOkB (lRow 2 b0 b1 b2 b3) m t = true := by decide +kernel
set_option synthInstance.maxHeartbeats 400000 in
set_option synthInstance.maxSize 1000 in
theorem lex_3 : ∀ b0, b0 < 2 → ∀ b1, b1 < 2 → ∀ b2, b2 < 2 → ∀ b3, b3 < 2 → ∀ m, m < 2 → ∀ t, t < 4 → lexOkB (lRow 3 b0 b1 b2 b3) m t = true := by decide +kernel
set_option synthInstance.maxHeartbeats 400000 in
set_option synthInstance.maxSize 1000 in
theorem lex_4 : ∀ b0, b0 < 2 → ∀ b1, b1 < 2 → ∀ b2, b2 < 2 → ∀ b3, b3 < 2 → ∀ m, m < 2 → ∀ t, t < 4 → lexOkB (lRow 4 b0 b1 b2 b3) m t = true := by decide +kernel
set_option synthInstance.maxHeartbeats 400000 in
set_option synthInstance.maxSize 1000 in
theorem lex_5 : ∀ b0, b0 < 2 → ∀ b1, b1 < 2 → ∀ b2, b2 < 2 → ∀ b3, b3 < 2 → ∀ m, m < 2 → ∀ t, t < 4 → lexOkB (lRow 5 b0 b1 b2 b3) m t = true := by decide +kernel
theorem lex_all : ∀ i, i < 6 → ∀ b0, b0 < 2 → ∀ b1, b1 < 2 → ∀ b2, b2 < 2 → ∀ b3, b3 < 2 → ∀ m, m < 2 → ∀ t, t < 4 → lexOkB (lRow i b0 b1 b2 b3) m t = true := fun i hi => match i, hi with
  | 0, _ => lex_0
  | 1, _ => lex_1
  | 2, _ => lex_2
  | 3, _ => lex_3
  | 4, _ => lex_4
  | 5, _ => lex_5
end Mine
end
open PySem PySem.W PyProof.Rows PySem.Calls
set_option Elab.async false
set_option maxRecDepth 100000
set_option maxHeartbeats 1000000
set_option linter.unusedVariables false
namespace Mine
/-- the end of the law: True, generators run out -/
theorem postG {M : Model} {A : Around} {cd : Code} {s s₁ : Shared} {cw : ClaimW} {cl : Str → Option Addr} {mean : ExcName → Option Value} {args : List WData} {tabs : List (Addr × Addr)} (hT : TabsAt tabs s₁.heap) (hr : ∀ a x, cw.raises a x = false)
    (h : codeAny M A cd (fun r s' => (r = .ok (.ret (.bool true)) ∧ cw.post args (.bool true) args = true ∧ (∀ b o, (ghostOf s₁.heap tabs).get? b = some o → s'.heap.get? b = some o) ∧ s'.os = s₁.os ∧ AllBare s'.gens) ∧ GrownAll tabs s'.heap) s) : codeAny M A cd (GoodWG cw cl mean args s₁) s :=
  codeAny_mono h fun r s' ⟨⟨e, hp, hk, hos, hg⟩, hgr⟩ => by
    have keep : ∀ b o, b ∉ tabs.map (·.2) → s₁.heap.get? b = some o → s'.heap.get? b = some o := fun b o hb e => hk b o (ghost_ne e hb)
    have grown : ∀ b o, b ∈ tabs.map (·.2) → s₁.heap.get? b = some o → isCodeTable s₁.heap b ∧ o = tabObj #[] ∧ ∃ ps, s'.heap.get? b = some (tabObj ps) := fun b o hb e => by
      obtain ⟨q, hq, rfl⟩ := List.mem_map.mp hb
      have e2 := (hT q hq).2
      rw [e] at e2
      exact ⟨((hT q hq).1.tab (hT q hq).2).isCodeTable, Option.some.inj e2, hgr.get q hq⟩
    refine ⟨.inl ⟨.bool true, .bool true, [], e, fun cls => hr _ cls, .bool _, hp, fun _ => ⟨List.nodup_nil, fun a ha => nomatch ha⟩⟩, ⟨fun b o e => ?_, fun b o e => ?_⟩, hos, hg⟩
    · by_cases hb : b ∈ tabs.map (·.2)
      · obtain ⟨ht, rfl, ps, hP⟩ := grown b o hb e
        exact .inr (.inl ⟨ht, rfl, #[], ps, rfl, by rw [Array.empty_append]; exact hP⟩)
      · exact .inl (keep b o hb e)
    · by_cases hb : b ∈ tabs.map (·.2)
      · obtain ⟨_, _, ps, hP⟩ := grown b o hb e
        exact ⟨_, hP⟩
      · exact ⟨o, keep b o hb e⟩
theorem wpAny_ofRet {M : Model} {A : Around} {t : Sem Flow} {P : Flow → Shared → Prop} {E : Value → Shared → Prop} {s : Shared} (h : wpAny M A t (RetQ fun v s' => P (.ret v) s') NoE s) (hP : ∀ f s', RetQ (fun v s' => P (.ret v) s') f s' → P f s') : wpAny M A t P E s :=
  wpAny_mono h (fun f s' hf => hP f s' hf) fun _ _ e => e.elim
end Mine
local macro_rules | `(tactic| kn_posts) => do
  let h := Lean.mkIdent `hT9
  `(tactic| refine Mine.postG $h (fun _ _ => rfl) ?_)
set_option maxHeartbeats 8000000 in
theorem PySem.Challenge.cw_rw0052_01_holds : PySem.Challenge.rw_rw0052_01.Holds :=
  Mine.hd (by
  k_go0
  rename IntsAre _ _ => hI9
  rename ¬ ((63 : Nat) : Int) < _ => hc9
  rename _ = (#[] : Array GenState) => hg9
  rename_i h1 tk1 oa5 oa4 oa3 oa2 oa1 d5 d4 d3 d2 d1 X0 X' T' K' F' N' l0'
  refine Mine.wpAny_ofRet ?_ (fun f s' hf => by cases f <;> exact hf)
  refine Mine.law_spec (l := []) rfl lifted hI9 (by omega) ⟨⟨_, F', Mine.Has.nil⟩, N', rfl, rfl⟩ (d1.trans rfl) (d2.trans rfl) (d3.trans rfl) (d4.trans rfl) (d5.trans rfl) l0' ⟨X', _, _, _, _, topRead_of T'⟩ ⟨_, _, _, _, _, T'⟩ codeHd rfl ?hr ?hu (.of_eq hg9) Mine.loop_all Mine.lex_all ?post
  case hr => simp only [depth_deeper, depth_caller]; decide
  case hu => exact Nat.le_of_ble_eq_true rfl
  case post =>
    intro g' s' ps l' news' hb hm S'
    refine ⟨⟨rfl, ?_, S'.keep, S'.os, by rw [S'.gens]; exact hb⟩, ⟨⟨ps, (S'.nw _ hm).1⟩, trivial⟩⟩
    wrow_post)
