import PyProof.Rows.All
import Wide.All
import OpenK.AllK
import Wide.FinOn
import PySem.Challenge.RW_nq0016_01
open PySem PySem.W PyProof.Rows
set_option Elab.async false
set_option maxRecDepth 100000
set_option maxHeartbeats 0
namespace Mine
open PySem.W.X PySem.W.ZRun
section
local macro_rules | `(tactic| k_head) => `(tactic| z_head)
open_top hd for PySem.Challenge.rw_nq0016_01
end
set_option pp.deepTerms false
set_option pp.maxSteps 600
abbrev PR : Program := PySem.Challenge.rw_nq0016_01.row.prog
def AA : Around := { handled := none, depth := 500, frames := none, guards := none, units := 500 }

def bodyOf : Stmt → List Stmt
  | .FunctionDef _ _ b _ _ _ _ _ _ _ => b
  | .ClassDef _ _ _ b _ _ _ _ _ _ _ => b
  | _ => []
def stAt (l : List Stmt) (i : Nat) : Stmt := l.getD i (.Pass ⟨0, 0, 0, 0⟩)
def clsBody : List Stmt := bodyOf (stAt (bodyOf (stAt PR.main.body 1)) 0)
def fnK (st : Stmt) (cl : List (Str × Addr)) (cd ct pm : Value) : FuncData := match st with
  | .FunctionDef name params body _ _ _ scope _ _ _ => { name := name, qualname := Str.ofString "cmp_to_key.<locals>.K." ++ name, params := params, body := .stmts body, scope := scope, globals := 3, closure := cl, defaults := .none, kwdefaults := .none, doc := .none, pyModule := pm, annotations := none, code := cd, closureTuple := ct, builtins := 0 }
  | _ => default
def nsK (hs : Nat → Int) (t : Nat → Tok) : Array DictEntry := #[
  ⟨hs 0, .str "__module__" (t 0), .str "cpy313.functools" (t 1)⟩, ⟨hs 1, .str "__firstlineno__" (t 2), .int 4 (t 3)⟩, ⟨hs 2, .str "__slots__" (t 4), .ref 251⟩,
  ⟨hs 3, .str "__init__" (t 5), .ref 258⟩, ⟨hs 4, .str "__lt__" (t 6), .ref 266⟩, ⟨hs 5, .str "__gt__" (t 7), .ref 274⟩, ⟨hs 6, .str "__eq__" (t 8), .ref 282⟩,
  ⟨hs 7, .str "__le__" (t 9), .ref 290⟩, ⟨hs 8, .str "__ge__" (t 10), .ref 298⟩, ⟨hs 9, .str "__hash__" (t 11), .none⟩,
  ⟨hs 10, .str "__static_attributes__" (t 12), .ref 299⟩, ⟨hs 11, .str "obj" (t 13), .ref 303⟩, ⟨hs 12, .str "__doc__" (t 14), .none⟩]
def codeV (name : Str) (line : Int) (b : Addr) (t : Nat → Tok) (tk : Int) : Array Value := #[.str name (t 0), .str (Str.ofString "cmp_to_key.<locals>.K." ++ name) (t 1), .str "/claim/cut.py" (t 2), .int line 0, .int 2 0, .int 0 0, .int 0 0, .int 19 0,
  .ref b, .bool true, .int 181 0, .ref (b + 1), .none, .ref (b + 2), .ref (b + 3), .ref (b + 4), .int tk 0, .int line 0, .str "/claim/cut.py" (t 3)]
abbrev codeO (name : Str) (line : Int) (b : Addr) (t : Nat → Tok) (tk : Int) : Obj := ⟨.type "code", none, .fields (codeV name line b t tk), #[]⟩
abbrev fobj (i : Nat) (cl : List (Str × Addr)) (cd ct pm : Value) : Obj := ⟨.type "function", none, .func (fnK (stAt clsBody i) cl cd ct pm), #[]⟩
abbrev o302 (t1 t2 : Tok) : Obj := ⟨.type "type", none, .cls { name := "K", bases := [.type "object"], mro := [.ref 302, .type "object"], ns := 301, qualname := "cmp_to_key.<locals>.K", hasDict := false, slotNames := ["obj"] },
    #[some (.ref 244), none, some (.str "K" t1), some (.str "cmp_to_key.<locals>.K" t2), some (.builtin "object.__new__"), some (.bool false)]⟩
abbrev o301 (hs : Nat → Int) (t : Nat → Tok) (n : Nat) : Obj := ⟨.type "dict", none, .dict (nsK hs t) n, #[]⟩
abbrev o303 (t : Tok) : Obj := ⟨.type "member_descriptor", none, .fields #[.str "obj" t, .ref 302, .builtin "proto.slot", .builtin "proto.slot#set", .int 0 0], #[]⟩
abbrev o243 : Obj := ⟨.type "cell", none, .cell (some (.ref 55)), #[]⟩
/-- the class that cmp_to_key has made -/
structure CF (h : Heap) : Prop where
  k302 : ∃ t1 t2, h.get? 302 = some (o302 t1 t2)
  k301 : ∃ hs t n, h.get? 301 = some (o301 hs t n)
  k303 : ∃ t, h.get? 303 = some (o303 t)
  k243 : h.get? 243 = some o243
  kin : ∃ pm, h.get? 258 = some (fobj 2 [] (.ref 257) .none pm)
  cin : ∃ t tk, h.get? 257 = some (codeO "__init__" 8 252 t tk)
  klt : ∃ pm, h.get? 266 = some (fobj 3 [("mycmp", 243)] (.ref 265) (.ref 259) pm)
  clt : ∃ t tk, h.get? 265 = some (codeO "__lt__" 11 260 t tk)
  kgt : ∃ pm, h.get? 274 = some (fobj 4 [("mycmp", 243)] (.ref 273) (.ref 267) pm)
  cgt : ∃ t tk, h.get? 273 = some (codeO "__gt__" 14 268 t tk)
  keq : ∃ pm, h.get? 282 = some (fobj 5 [("mycmp", 243)] (.ref 281) (.ref 275) pm)
  ceq : ∃ t tk, h.get? 281 = some (codeO "__eq__" 17 276 t tk)
  kle : ∃ pm, h.get? 290 = some (fobj 6 [("mycmp", 243)] (.ref 289) (.ref 283) pm)
  cle : ∃ t tk, h.get? 289 = some (codeO "__le__" 20 284 t tk)
  kge : ∃ pm, h.get? 298 = some (fobj 7 [("mycmp", 243)] (.ref 297) (.ref 291) pm)
  cge : ∃ t tk, h.get? 297 = some (codeO "__ge__" 23 292 t tk)
section
theorem fin_true {P : Prop} (h : P) (_ : 0 < 1) : P := h
def slTok (o : Option Obj) (i : Nat) : Tok := match o with
  | some o => (match o.slots[i]? with | some (some (.str _ t)) => t | _ => 0)
  | none => 0
def fTok (o : Option Obj) (i : Nat) : Tok := match o with
  | some ⟨_, _, .fields vs, _⟩ => (match vs[i]? with | some (.str _ t) => t | _ => 0)
  | _ => 0
def kTok (o : Option Obj) (i : Nat) : Tok := match o with
  | some ⟨_, _, .dict es _, _⟩ => (match es[i]? with | some ⟨_, .str _ t, _⟩ => t | _ => 0)
  | _ => 0
def vTok (o : Option Obj) (i : Nat) : Tok := match o with
  | some ⟨_, _, .dict es _, _⟩ => (match es[i]? with | some ⟨_, _, .str _ t⟩ => t | some ⟨_, _, .int _ t⟩ => t | _ => 0)
  | _ => 0
def nsTok (o : Option Obj) (i : Nat) : Tok := match i with
  | 0 => kTok o 0 | 1 => vTok o 0 | 2 => kTok o 1 | 3 => vTok o 1 | i + 4 => kTok o (i + 2)
def eHash (o : Option Obj) (i : Nat) : Int := match o with
  | some ⟨_, _, .dict es _, _⟩ => (match es[i]? with | some e => e.hash | _ => 0)
  | _ => 0
def dEp (o : Option Obj) : Nat := match o with
  | some ⟨_, _, .dict _ n, _⟩ => n
  | _ => 0
def fPm (o : Option Obj) : Value := match o with
  | some ⟨_, _, .func fd, _⟩ => fd.pyModule
  | _ => .none
theorem chLook_none {b : Addr} : ∀ {ch : Ch}, b ∉ ch.map (·.1) → chLook ch b = none
  | [], _ => rfl
  | p :: l, h => by
    have h1 : p.1 ≠ b := fun e => h (by rw [← e]; exact List.mem_cons_self)
    have h2 : Nat.beq p.1 b = false := by rw [BT.beq_eq]; exact decide_eq_false h1
    show (match Nat.beq p.1 b with | true => some p.2 | false => chLook l b) = none
    rw [h2]
    exact chLook_none fun m => h (List.mem_cons_of_mem _ m)
def cTok (o : Option Obj) (i : Nat) : Tok := match i with | 0 => fTok o 0 | 1 => fTok o 1 | 2 => fTok o 2 | _ => fTok o 18
def cTk (o : Option Obj) : Int := match o with
  | some ⟨_, _, .fields vs, _⟩ => (match (vs[16]? : Option Value) with | some (Value.int k _) => k | _ => 0)
  | _ => 0
/-- the code table of cmp_to_key has grown -/
def Tab16 (h h' : Heap) : Prop := ∃ c ps more, h.TableAt c 16 ps ∧ h'.get? 16 = some (tableObj (ps ++ more))
theorem mk_end {s : Shared} {Q : Value → Shared → Prop} {V : XV} {h : Heap} {T : BT} {ch : Ch} {m tk : Nat}
    (hQ : ∀ h' tk, CF h' → (∀ b o, s.heap.get? b = some o → b ≠ 16 → h'.get? b = some o) → h'.objs.size = 306 → Tab16 s.heap h' → Q (.ref 302) ⟨h', #[], s.drawn, tk, s.os⟩)
    (D : Rep V h T m ch) (hV : V.h₀ = s.heap) (hn : V.n₁ = 242) (hm : m = 64)
    (e60 : T.get 60 = some (o302 (slTok (T.get 60) 2) (slTok (T.get 60) 3)))
    (e59 : T.get 59 = some (o301 (eHash (T.get 59)) (nsTok (T.get 59)) (dEp (T.get 59))))
    (e61 : T.get 61 = some (o303 (fTok (T.get 61) 0)))
    (e1 : T.get 1 = some o243)
    (e16 : T.get 16 = some (fobj 2 [] (.ref 257) .none (fPm (T.get 16))))
    (e15 : T.get 15 = some (codeO "__init__" 8 252 (cTok (T.get 15)) (cTk (T.get 15))))
    (e24 : T.get 24 = some (fobj 3 [("mycmp", 243)] (.ref 265) (.ref 259) (fPm (T.get 24))))
    (e23 : T.get 23 = some (codeO "__lt__" 11 260 (cTok (T.get 23)) (cTk (T.get 23))))
    (e32 : T.get 32 = some (fobj 4 [("mycmp", 243)] (.ref 273) (.ref 267) (fPm (T.get 32))))
    (e31 : T.get 31 = some (codeO "__gt__" 14 268 (cTok (T.get 31)) (cTk (T.get 31))))
    (e40 : T.get 40 = some (fobj 5 [("mycmp", 243)] (.ref 281) (.ref 275) (fPm (T.get 40))))
    (e39 : T.get 39 = some (codeO "__eq__" 17 276 (cTok (T.get 39)) (cTk (T.get 39))))
    (e48 : T.get 48 = some (fobj 6 [("mycmp", 243)] (.ref 289) (.ref 283) (fPm (T.get 48))))
    (e47 : T.get 47 = some (codeO "__le__" 20 284 (cTok (T.get 47)) (cTk (T.get 47))))
    (e56 : T.get 56 = some (fobj 7 [("mycmp", 243)] (.ref 297) (.ref 291) (fPm (T.get 56))))
    (e55 : T.get 55 = some (codeO "__ge__" 23 292 (cTok (T.get 55)) (cTk (T.get 55))))
    (hc : ch.map (·.1) = [16]) : Q (.ref 302) ⟨h, #[], s.drawn, tk, s.os⟩ := by
  have hch : ∃ vs, chLook ch 16 = some vs := by
    match ch, hc with
    | [(a, vs)], hc =>
      have : a = 16 := by simpa using hc
      subst this
      exact ⟨vs, rfl⟩
  obtain ⟨vs, hvs⟩ := hch
  obtain ⟨y, c, ps, more, ht, hv⟩ := D.ch 16 vs hvs
  rw [hV] at ht
  have own := fun i o e => (D.own i o e).2
  rw [hn] at own
  refine hQ h tk ⟨⟨_, _, own _ _ e60⟩, ⟨_, _, _, own _ _ e59⟩, ⟨_, own _ _ e61⟩, own _ _ e1, ⟨_, own _ _ e16⟩, ⟨_, _, own _ _ e15⟩, ⟨_, own _ _ e24⟩, ⟨_, _, own _ _ e23⟩, ⟨_, own _ _ e32⟩, ⟨_, _, own _ _ e31⟩, ⟨_, own _ _ e40⟩, ⟨_, _, own _ _ e39⟩, ⟨_, own _ _ e48⟩, ⟨_, _, own _ _ e47⟩, ⟨_, own _ _ e56⟩, ⟨_, _, own _ _ e55⟩⟩ (fun b o e hb => D.keep b o (hV ▸ e) (chLook_none (by rw [hc]; simpa using hb))) ?_ ⟨c, ps, more, ht, by rw [y, hv]⟩
  rw [D.size, hn, hm]
local macro_rules | `(tactic| exfalso) => `(tactic| (refine fin_true ?q0 ?_; (case q0 => (refine' mk_end ?q1 ?q2 ?q3 ?q4 ?q5 ?r0 ?r1 ?r2 ?r3 ?r4 ?r5 ?r6 ?r7 ?r8 ?r9 ?r10 ?r11 ?r12 ?r13 ?r14 ?r15 ?r16; (case q1 => assumption); (case q2 => assumption); (case q3 => rfl); (case q4 => rfl); all_goals kernel_rfl))))
theorem mk_class (w : World) (s : Shared) (ZH : KT.Holds s.heap 1 0 (hd.ktop_187 w.params)) (hs : s.heap.objs.size = 242) (hg : s.gens = #[]) (Q : Value → Shared → Prop) (E : Value → Shared → Prop)
    (hQ : ∀ h' tk, CF h' → (∀ b o, s.heap.get? b = some o → b ≠ 16 → h'.get? b = some o) → h'.objs.size = 306 → Tab16 s.heap h' → Q (.ref 302) ⟨h', #[], s.drawn, tk, s.os⟩) :
    wpAny (model PR w) AA (call (.ref 21) [.ref 55]) Q E s := by
  z_run
end
theorem fin_of (H : ∀ (w : World) (s : Shared) (vs : List Value) (ns : List Int) (Q E : Value → Shared → Prop), (hd.heap_113 w.params).In s.heap → KT.Holds s.heap 1 0 (hd.ktop_187 w.params) → s.heap.objs.size = 76 → s.gens = #[] →
    s.heap.IsList 75 vs.toArray → IntsAre vs ns → ns.length ≤ 2 ^ 20 → (∀ s', OldK s.heap s'.heap → s'.os = s.os → s'.gens = #[] → Q (.bool true) s') → wpAny (model PR w) callerA (call (.ref 74) [.ref 75]) Q E s) :
    PySem.Challenge.rw_nq0016_01.Holds := by
  refine hd ?_
  k_fill
  intro w s₀ s₁ mg mb G y fa o pm cd doc dV kV ho hd hcd hD hmg hg args vals as L hpre hlay hrd hwl hlo
  z_open y L KX ZH ZN ZT
  refine Ground.open G ?_
  intro T B D TE TW
  wrow_args hpre hlay hrd hwl hlo
  obtain ⟨hat, hsz⟩ := script_at L
  rw [ZN] at hat hsz
  subst hat
  x_fa T KX hmg
  all_lens
  refine H w s₁ _ _ _ _ KX ZH hsz hg (by assumption) (by assumption) (by first | omega | exact And.right (by assumption)) ?_
  intro s' ho hos hgs
  refine ⟨.inl ⟨_, _, [], rfl, fun _ => rfl, ReadsW.bool true, ?_, fun _ => ⟨List.nodup_nil, fun _ hm => (nomatch hm)⟩⟩, ho, hos, .of_eq hgs⟩
  first | rfl | wrow_post
end Mine

set_option maxRecDepth 100000
set_option maxHeartbeats 4000000
namespace Mine
open PySem.Calls

/-! ## the logic: a call keeps all that stands -/
def Kp (h h' : Heap) : Prop := ∀ b o, h.get? b = some o → h'.get? b = some o
theorem Kp.refl (h : Heap) : Kp h h := fun _ _ e => e
theorem Kp.trans {a b c : Heap} (x : Kp a b) (y : Kp b c) : Kp a c := fun _ _ e => y _ _ (x _ _ e)
structure Nx (s s' : Shared) : Prop where
  kp : Kp s.heap s'.heap
  gens : s'.gens = s.gens
  dr : s'.drawn = s.drawn
  os : s'.os = s.os
theorem Nx.refl (s : Shared) : Nx s s := ⟨Kp.refl _, rfl, rfl, rfl⟩
theorem Nx.trans {a b c : Shared} (x : Nx a b) (y : Nx b c) : Nx a c := ⟨x.kp.trans y.kp, y.gens.trans x.gens, y.dr.trans x.dr, y.os.trans x.os⟩
theorem Nx.tok (s : Shared) (k : Nat) : Nx s { s with toks := k } := ⟨Kp.refl _, rfl, rfl, rfl⟩
theorem Nx.mk' {s : Shared} {h : Heap} {k : Nat} (x : Kp s.heap h) : Nx s { s with heap := h, toks := k } := ⟨x, rfl, rfl, rfl⟩

structure Okay (n : Nat) (A : Around) : Prop where
  hd : A.handled = none
  dp : A.depth + n ≤ 500
  un : A.units + 10 * n ≤ 500
theorem Okay.le {n m : Nat} {A : Around} (x : Okay n A) (h : m ≤ n) : Okay m A := ⟨x.hd, by have := x.dp; omega, by have := x.un; omega⟩
theorem Okay.deeper {n : Nat} {A : Around} (x : Okay (n + 1) A) (env : Env) : Okay n (A.deeper env) :=
  ⟨x.hd, by have := x.dp; show A.depth + 1 + n ≤ 500; omega, by have := x.un; show A.units + 3 + 10 * n ≤ 500; omega⟩
theorem Okay.in1 {n : Nat} {A : Around} (x : Okay (n + 1) A) : Okay n A.in1 :=
  ⟨x.hd, by have := x.dp; show A.depth + n ≤ 500; omega, by have := x.un; show A.units + 1 + 10 * n ≤ 500; omega⟩
theorem Okay.room {n : Nat} {A : Around} (x : Okay n A) : A.depth < recursionLimit := by have := x.dp; show A.depth < 1000; omega
theorem wk {α : Type} {M : Model} {A : Around} {t : Sem α} {Q : α → Shared → Prop} {E : Value → Shared → Prop} {s : Shared} (x : Okay 0 A) (h : wpAny M AA t Q E s) : wpAny M A t Q E s :=
  fun Γ p hΓ => h Γ p ⟨hΓ.1.trans x.hd, Nat.le_trans hΓ.2.1 (by have := x.dp; show A.depth ≤ 500; omega), fun _ e => (nomatch e), fun _ e => (nomatch e), Nat.le_trans hΓ.2.2.2.2 (by have := x.un; show A.units ≤ 500; omega)⟩

abbrev MM (w : World) : Model := model PR w
/-- what a call of value f upon args gives back, at every later heap -/
def Cl (w : World) (n : Nat) (h : Heap) (f : Value) (args : List Value) (P : Value → Heap → Prop) : Prop :=
  ∀ (A : Around) (s : Shared) (Q : Value → Shared → Prop) (E : Value → Shared → Prop), Okay n A → Kp h s.heap → (∀ v s', Nx s s' → P v s'.heap → Q v s') → wpAny (MM w) A (call f args) Q E s

/-- the written part -/
noncomputable def KP (q : Params) : Frag := (hd.heap_113 q).filter fun p => !(Nat.beq p.1 16 || Nat.beq p.1 71)
noncomputable abbrev KK (w : World) : Frag := KP w.params
noncomputable def ob (w : World) (a : Addr) : Obj := ((KK w).lookup a).getD default
theorem ob_at {w : World} {h : Heap} (X : (KK w).In h) (a : Addr) (e : (KK w).lookup a = some (ob w a)) : h.get? a = some (ob w a) := X a _ e
noncomputable def fdAt (w : World) (a : Addr) : FuncData := match (ob w a).data with | .func fd => fd | _ => default
noncomputable def bdAt (w : World) (a : Addr) : List Stmt := match (fdAt w a).body with | .stmts b => b | _ => []

section
variable {w : World} {A : Around} {E : Value → Shared → Prop} {s : Shared} {env : Env} {M : Model}
theorem get_ns {x : Str} {ns : Addr} {r : Option Value} {Q : Option Value → Shared → Prop} (X : (KK w).In s.heap) (e : nsIn (KK w) ns x = some r) (h : Q r s) : wpAny M A (nsGet ns x) Q E s :=
  (looks_nsIn X e).here h
theorem ld_glob {x : Str} {v : Value} {Q : Value → Shared → Prop} (X : (KK w).In s.heap) (hg : env.globals = 3) (e : nsIn (KK w) 3 x = some (some v)) (h : Q v s) : wpAny M A (loadGlobal env x) Q E s := by
  unfold loadGlobal
  rw [hg]
  exact wpAny_bind (get_ns X e (wpAny_pure h))
theorem ld_blt {x : Str} {v : Value} {Q : Value → Shared → Prop} (X : (KK w).In s.heap) (hg : env.globals = 3) (hb : env.builtins = 0) (e : nsIn (KK w) 3 x = some none) (e' : nsIn (KK w) 0 x = some (some v)) (h : Q v s) :
    wpAny M A (loadGlobal env x) Q E s := by
  unfold loadGlobal
  rw [hg, hb]
  exact wpAny_bind (get_ns X e (wpAny_bind (get_ns X e' (wpAny_pure h))))
theorem nm_glob {x : Str} {pos : Pos} {v : Value} {Q : Value → Shared → Prop} (X : (KK w).In s.heap) (e : nsIn (KK w) 3 x = some (some v)) (h : Q v s)
    (hg : env.globals = 3 := by rfl) (hk : env.scope.kind = .function := by rfl) (hx : env.kindOf x = some .globalImplicit := by rfl) (hd : (x == ("__debug__" : Str)) = false := by decide) :
    wpAny M A (eval (.Name x pos) env) Q E s := Name_function_global hk hx (ld_glob X hg e h) hd
theorem nm_blt {x : Str} {pos : Pos} {v : Value} {Q : Value → Shared → Prop} (X : (KK w).In s.heap) (e : nsIn (KK w) 3 x = some none) (e' : nsIn (KK w) 0 x = some (some v)) (h : Q v s)
    (hg : env.globals = 3 := by rfl) (hb : env.builtins = 0 := by rfl) (hk : env.scope.kind = .function := by rfl) (hx : env.kindOf x = some .globalImplicit := by rfl) (hd : (x == ("__debug__" : Str)) = false := by decide) :
    wpAny M A (eval (.Name x pos) env) Q E s := Name_function_global hk hx (ld_blt X hg hb e e' h) hd
theorem nm_local {x : Str} {pos : Pos} {v : Value} {m : Str → Option Value} {Q : Value → Shared → Prop} (N : s.heap.Ns env.locals m) (e : m x = some v) (h : Q v s)
    (hk : env.scope.kind = .function := by rfl) (hx : env.kindOf x = some .local := by rfl) (hd : (x == ("__debug__" : Str)) = false := by decide) :
    wpAny M A (eval (.Name x pos) env) Q E s := wpAny_Name (wpAny_loadName_local hk hx N e h) hd
end

theorem noLimit {w : World} {h : Heap} (X : (KK w).In h) : h.NoLimit := by
  have e : (KK w).lookup 2 = some ⟨.none, none, .dict #[] 0, #[]⟩ := by kernel_rfl
  exact ⟨fun _ => none, ⟨_, #[], 0, X _ _ e, rfl, fun _ hx => by simp at hx, fun _ => rfl⟩, rfl⟩
theorem enterB {w : World} {A : Around} {s : Shared} {R : Result → Shared → Prop} {a : Addr} {args : Args} (fd : FuncData) (body : List Stmt) (binds : List (Str × Value)) (hroom : A.depth < recursionLimit) (X : (KK w).In s.heap)
    (e1 : (KK w).lookup a = some (ob w a)) (e2 : (ob w a).data = .func fd) (e3 : codeIn (KK w) fd.code fd.qualname = true) (e4 : fd.body = .stmts body)
    (hbind : BindsTo s fd args binds) (hcell : fd.scope.names.all (fun x => x.2 != .cell) = true) (hloc : binds.all (fun x => fd.scope.names.lookup x.1 == some .local) = true)
    (hco : fd.scope.isCoroutine = false) (hgen : fd.scope.isGenerator = false) (hk : fd.scope.kind = .function)
    (h : ∀ h₀, h₀.Ns s.heap.objs.size (fun x => binds.reverse.lookup x) → Kp s.heap h₀ →
      wpAny (MM w) (A.deeper (callEnv fd s.heap.objs.size a)) (execs body (callEnv fd s.heap.objs.size a)) (fun f s' => R (.ok (.ret (match f with | .ret v => v | _ => .none))) s')
        (fun e s' => wpAny (MM w) (A.deeper (callEnv fd s.heap.objs.size a)) (leaving (callEnv fd s.heap.objs.size a) e) (fun _ s'' => R (.error e) s'') (fun e' s'' => R (.error e') s'') s')
        { s with heap := h₀, toks := s.toks + binds.length }) : codeAny (MM w) A (.call (.ref a) args) R s :=
  codeAny_call_def hroom (ob_at X a e1) e2 (noLimit X) (codeRec_of X e3) e4 hbind
    (fun x hx => by have := List.all_eq_true.mp hcell x hx; intro e; rw [e] at this; exact absurd this (by decide))
    (fun x hx => by have := List.all_eq_true.mp hloc x hx; simpa using this) h hco hgen hk
theorem enter {w : World} {A : Around} {s : Shared} {R : Result → Shared → Prop} {a : Addr} {args : Args} (fd : FuncData) (body : List Stmt) (binds : List (Str × Value)) (hroom : A.depth < recursionLimit) (X : (KK w).In s.heap)
    (e1 : (KK w).lookup a = some (ob w a)) (e2 : (ob w a).data = .func fd) (e3 : codeIn (KK w) fd.code fd.qualname = true) (e4 : fd.body = .stmts body)
    (hbind : bindArgs fd args = pure binds) (hcell : fd.scope.names.all (fun x => x.2 != .cell) = true) (hloc : binds.all (fun x => fd.scope.names.lookup x.1 == some .local) = true)
    (hco : fd.scope.isCoroutine = false) (hgen : fd.scope.isGenerator = false) (hk : fd.scope.kind = .function)
    (h : ∀ h₀, h₀.Ns s.heap.objs.size (fun x => binds.reverse.lookup x) → Kp s.heap h₀ →
      wpAny (MM w) (A.deeper (callEnv fd s.heap.objs.size a)) (execs body (callEnv fd s.heap.objs.size a)) (fun f s' => R (.ok (.ret (match f with | .ret v => v | _ => .none))) s')
        (fun e s' => wpAny (MM w) (A.deeper (callEnv fd s.heap.objs.size a)) (leaving (callEnv fd s.heap.objs.size a) e) (fun _ s'' => R (.error e) s'') (fun e' s'' => R (.error e') s'') s')
        { s with heap := h₀, toks := s.toks + binds.length }) : codeAny (MM w) A (.call (.ref a) args) R s :=
  enterB fd body binds hroom X e1 e2 e3 e4 (BindsTo.of_eq hbind) hcell hloc hco hgen hk h
theorem new_none {h : Heap} : h.get? h.objs.size = none := by
  cases e : h.get? h.objs.size with
  | none => rfl
  | some o => exact absurd (Heap.lt_size e) (Nat.lt_irrefl _)

theorem item_at {w : World} {A : Around} {E : Value → Shared → Prop} {s : Shared} {value slice : Expr} {l : Addr} {items : Array Value} {k : Int} {u : Tok} {v : Value} {Q : Value → Shared → Prop}
    (hl : s.heap.IsList l items) (h0 : 0 ≤ k) (hhi : k < 2 ^ 63) (hx : items[k.toNat]? = some v) (h : Q v s)
    (hs : subscripted slice false (.ref l) (.int k u) = operate [.ref l, .int k u] (getItem (.ref l) (.int k u)) := by with_unfolding_all rfl) :
    wpAny (MM w) A (subscriptTail value slice (.ref l) (.int k u)) Q E s :=
  tail_any hl.typeIs slot_list_getitem.lookup (wpAny_getItem_list hl h0 hhi hx h) hs
/-! ## the rank, given what capwords gives -/
def Title (h : Heap) (a : Addr) (t : Str) : Prop := t.length ≤ 1000 ∧ ∃ k tk tk' n, h.get? a = some ⟨.type "list", none, .seq #[.str t tk, .int k tk'] n, #[]⟩
theorem Title.kp {h h' : Heap} {a : Addr} {t : Str} (x : Title h a t) (k : Kp h h') : Title h' a t := let ⟨z, a, b, c, d, e⟩ := x; ⟨z, a, b, c, d, k _ _ e⟩
theorem Title.list {h : Heap} {a : Addr} {t : Str} (x : Title h a t) : ∃ k tk tk', h.IsList a #[.str t tk, .int k tk'] := let ⟨_, k, tk, tk', n, e⟩ := x; ⟨k, tk, tk', _, e, rfl, n, rfl⟩
abbrev cp (s : Str) : List Nat := s.cps.toList
def rk (a b : List Nat) : Int := if a = b then 0 else if a < b then -3 else 2

theorem rank_c {w : World} {capw : Str → Str} (cap : ∀ (h : Heap) (s : Str) (t : Tok), s.length ≤ 1000000 → (KK w).In h → Cl w 3 h (.ref 38) [.str s t] (fun v _ => ∃ t', v = .str (capw s) t'))
    {h : Heap} (X : (KK w).In h) {a b : Addr} {u v : Str} (ha : Title h a u) (hb : Title h b v) :
    Cl w 5 h (.ref 55) [.ref a, .ref b] (fun r _ => ∃ t', r = .int (rk (cp (capw u)) (cp (capw v))) t') := by
  intro A s Q E ok k hQ
  have X' := X.keeps k
  refine wpAny_call ?_
  refine enter (fdAt w 55) (bdAt w 55) [("left", .ref a), ("right", .ref b)] ok.room X' (by kernel_rfl) (by kernel_rfl) (by kernel_rfl) (by kernel_rfl) (by kernel_rfl) (by kernel_rfl) (by kernel_rfl) (by kernel_rfl) (by kernel_rfl) (by kernel_rfl) ?_
  intro h₁ N₁ k₁
  have F₁ : Fr s.heap s.heap.objs.size h₁ _ := ⟨N₁, k₁, Nat.le_refl _⟩
  have ok1 := ok.deeper (callEnv (fdAt w 55) s.heap.objs.size 55)
  refine wpAny_execs_cons ?_
  refine wpAny_Assign_Name ?_ (by kernel_rfl)
  refine Call_ ?_
  refine nm_glob (w := w) (X'.keeps F₁.keep) (v := .ref 38) (by kernel_rfl) ?_ (by kernel_rfl) (by kernel_rfl) (by kernel_rfl)
  refine callWith_def (o := ob w 38) (fd := fdAt w 38) (by kernel_rfl) ?_ (by kernel_rfl)
  refine args_cons ?_ (by kernel_rfl)
  refine Subscript_ ?_
  refine nm_local F₁.ns (v := .ref a) (by kernel_rfl) ?_ (by kernel_rfl) (by kernel_rfl)
  refine wpAny_Constant_int ?_
  obtain ⟨ka, ta, ta', la⟩ := (ha.kp (k.trans F₁.keep)).list
  refine item_at la (by decide) (by decide) rfl ?_
  refine args_nil ?_
  refine ⟨ob_at (X'.keeps F₁.keep) 38 (by kernel_rfl), ?_⟩
  refine cap _ u ta (Nat.le_trans ha.1 (by decide)) (X'.keeps F₁.keep) _ _ _ _ (ok1.le (by decide)) (Kp.refl _) ?_
  rintro _ s2 nx2 ⟨t2, rfl⟩
  have F2 := F₁.keeps nx2.kp
  refine wpAny_storeName_local (by kernel_rfl) F2.ns ?_ (by kernel_rfl)
  intro h3 N3 sb3
  have F3 := F2.set N3 sb3
  refine wpAny_execs_cons ?_
  refine wpAny_Assign_Name ?_ (by kernel_rfl)
  refine Call_ ?_
  refine nm_glob (w := w) (X'.keeps F3.keep) (v := .ref 38) (by kernel_rfl) ?_ (by kernel_rfl) (by kernel_rfl) (by kernel_rfl)
  refine callWith_def (o := ob w 38) (fd := fdAt w 38) (by kernel_rfl) ?_ (by kernel_rfl)
  refine args_cons ?_ (by kernel_rfl)
  refine Subscript_ ?_
  refine nm_local F3.ns (v := .ref b) (by kernel_rfl) ?_ (by kernel_rfl) (by kernel_rfl)
  refine wpAny_Constant_int ?_
  obtain ⟨kb, tb, tb', lb⟩ := (hb.kp (k.trans F3.keep)).list
  refine item_at lb (by decide) (by decide) rfl ?_
  refine args_nil ?_
  refine ⟨ob_at (X'.keeps F3.keep) 38 (by kernel_rfl), ?_⟩
  refine cap _ v tb (Nat.le_trans hb.1 (by decide)) (X'.keeps F3.keep) _ _ _ _ (ok1.le (by decide)) (Kp.refl _) ?_
  rintro _ s4 nx4 ⟨t4, rfl⟩
  have F4 := F3.keeps nx4.kp
  refine wpAny_storeName_local (by kernel_rfl) F4.ns ?_ (by kernel_rfl)
  intro h5 N5 sb5
  have F5 := F4.set N5 sb5
  have nx5 : ∀ k, Nx s { s4 with heap := h5, toks := k } := fun k => ⟨F5.keep, nx4.gens.trans nx2.gens, nx4.dr.trans nx2.dr, nx4.os.trans nx2.os⟩
  refine wpAny_execs_cons ?_
  refine wpAny_If ?_
  refine wpAny_isTrue_Compare1 ?_
  refine nm_local F5.ns (v := .str (capw u) t2) (by kernel_rfl) ?_ (by kernel_rfl) (by kernel_rfl)
  refine nm_local F5.ns (v := .str (capw v) t4) (by kernel_rfl) ?_ (by kernel_rfl) (by kernel_rfl)
  refine P.eq_str ?_
  refine wpAny_truthy_bool ?_
  by_cases he : cp (capw u) = cp (capw v)
  · rw [if_pos (by simpa using he)]
    refine wpAny_execs_cons (wpAny_Return_some ?_)
    refine wpAny_Constant_int ?_
    exact hQ _ _ (nx5 _) ⟨_, by unfold rk; rw [if_pos he]⟩
  · rw [if_neg (by simpa using he)]
    refine wpAny_execs_nil ?_
    refine wpAny_execs_cons (wpAny_Return_some ?_)
    refine IfExp_ ?_
    refine wpAny_isTrue_Compare1 ?_
    refine nm_local F5.ns (v := .str (capw u) t2) (by kernel_rfl) ?_ (by kernel_rfl) (by kernel_rfl)
    refine nm_local F5.ns (v := .str (capw v) t4) (by kernel_rfl) ?_ (by kernel_rfl) (by kernel_rfl)
    refine P.lt_str ?_
    refine wpAny_truthy_bool ?_
    by_cases hl : cp (capw u) < cp (capw v)
    · rw [if_pos (by simpa using hl)]
      refine UnaryOp_ ?_
      refine wpAny_Constant_int ?_
      refine P.neg_int ?_
      exact hQ _ _ (nx5 _) ⟨_, by unfold rk; rw [if_neg he, if_pos hl]⟩
    · rw [if_neg (by simpa using hl)]
      refine wpAny_Constant_int ?_
      exact hQ _ _ (nx5 _) ⟨_, by unfold rk; rw [if_neg he, if_neg hl]⟩
end Mine

set_option maxRecDepth 100000
set_option maxHeartbeats 40000000
namespace Mine
open PySem.Calls PySem.W.X

theorem CF.kp {h h' : Heap} (C : CF h) (k : Kp h h') : CF h' := by
  obtain ⟨⟨a1, a2, a3⟩, ⟨b1, b2, b3, b4⟩, ⟨c1, c2⟩, d, ⟨e1, e2⟩, ⟨f1, f2, f3⟩, ⟨g1, g2⟩, ⟨i1, i2, i3⟩, ⟨j1, j2⟩, ⟨l1, l2, l3⟩, ⟨m1, m2⟩, ⟨n1, n2, n3⟩, ⟨o1, o2⟩, ⟨p1, p2, p3⟩, ⟨q1, q2⟩, ⟨r1, r2, r3⟩⟩ := C
  exact ⟨⟨a1, a2, k _ _ a3⟩, ⟨b1, b2, b3, k _ _ b4⟩, ⟨c1, k _ _ c2⟩, k _ _ d, ⟨e1, k _ _ e2⟩, ⟨f1, f2, k _ _ f3⟩, ⟨g1, k _ _ g2⟩, ⟨i1, i2, k _ _ i3⟩, ⟨j1, k _ _ j2⟩, ⟨l1, l2, k _ _ l3⟩, ⟨m1, k _ _ m2⟩, ⟨n1, n2, k _ _ n3⟩, ⟨o1, k _ _ o2⟩, ⟨p1, p2, k _ _ p3⟩, ⟨q1, k _ _ q2⟩, ⟨r1, r2, k _ _ r3⟩⟩

def Inst (h : Heap) (x a : Addr) : Prop := ∃ d od, h.get? x = some ⟨.ref 302, some d, .plain, #[some (.ref a)]⟩ ∧ h.get? d = some od
theorem Inst.kp {h h' : Heap} {x a : Addr} (i : Inst h x a) (k : Kp h h') : Inst h' x a := let ⟨d, od, e, e'⟩ := i; ⟨d, od, k _ _ e, k _ _ e'⟩
theorem mem_kp {h h' : Heap} {news : List (Addr × Obj)} (D : Mem h h' [] news) : Kp h h' := fun b o e => D.keep b o e (by rw [show away [] b = true from rfl, Bool.or_true])
def dOf (o : Option (Addr × Obj)) : Addr := match o with | some (_, o) => o.dict.getD 0 | none => 0
def oOf (o : Option (Addr × Obj)) : Obj := match o with | some (_, o) => o | none => default
theorem mkK_end {s : Shared} {Q : Value → Shared → Prop} {a x : Addr} {h' : Heap} {news : List (Addr × Obj)} {t : Nat}
    (hQ : ∀ v s', Nx s s' → (∃ x, v = .ref x ∧ Inst s'.heap x a) → Q v s') (D : Mem s.heap h' [] news) (hi : news[1]? = some (x, ⟨.ref 302, some (dOf news[1]?), .plain, #[some (.ref a)]⟩)) (hj : news[2]? = some (dOf news[1]?, oOf news[2]?)) :
    Q (.ref x) ⟨h', s.gens, s.drawn, t, s.os⟩ :=
  hQ _ _ ⟨mem_kp D, rfl, rfl, rfl⟩ ⟨x, rfl, _, _, D.at 1 _ _ hi, D.at 2 _ _ hj⟩
section
local macro_rules | `(tactic| x_close) => `(tactic| (refine mkK_end (by assumption) (by assumption) ?hi ?hj; (case hi => kernel_rfl); (case hj => kernel_rfl)))
theorem mk_K0 (w : World) (s : Shared) (a : Addr) (Q E : Value → Shared → Prop) (X : (KP w.params).In s.heap) (t1 t2 : Tok) (hs : Nat → Int) (t : Nat → Tok) (n : Nat) (t3 : Tok) (pm : Value) (t4 : Nat → Tok) (tk4 : Int)
    (k1 : s.heap.get? (nat_lit 302) = some ⟨.type "type", none, .cls { name := "K", bases := [.type "object"], mro := [.ref 302, .type "object"], ns := 301, qualname := "cmp_to_key.<locals>.K", hasDict := false, slotNames := ["obj"] },
      #[some (.ref 244), none, some (.str "K" t1), some (.str "cmp_to_key.<locals>.K" t2), some (.builtin "object.__new__"), some (.bool false)]⟩)
    (k2 : s.heap.get? (nat_lit 301) = some ⟨.type "dict", none, .dict (nsK hs t) n, #[]⟩)
    (k3 : s.heap.get? (nat_lit 303) = some ⟨.type "member_descriptor", none, .fields #[.str "obj" t3, .ref 302, .builtin "proto.slot", .builtin "proto.slot#set", .int 0 0], #[]⟩)
    (k4 : s.heap.get? (nat_lit 258) = some ⟨.type "function", none, .func (fnK (stAt clsBody 2) [] (.ref 257) .none pm), #[]⟩)
    (k5 : s.heap.get? (nat_lit 257) = some ⟨.type "code", none, .fields (codeV "__init__" 8 252 t4 tk4), #[]⟩)
    (hQ : ∀ v s', Nx s s' → (∃ x, v = .ref x ∧ Inst s'.heap x a) → Q v s') : wpAny (model PR w) AA (call (.ref 302) [.ref a]) Q E s := by
  x_run
end
theorem mk_K {w : World} {h : Heap} (X : (KK w).In h) (C : CF h) (a : Addr) : Cl w 3 h (.ref 302) [.ref a] (fun v h' => ∃ x, v = .ref x ∧ Inst h' x a) := by
  intro A s Q E ok k hQ
  obtain ⟨⟨t1, t2, k302⟩, ⟨hs, t, n, k301⟩, ⟨t3, k303⟩, -, ⟨pm, kin⟩, ⟨t4, tk4, cin⟩, -, -, -, -, -, -, -, -, -, -⟩ := C.kp k
  exact wk (ok.le (by decide)) (mk_K0 w s a Q E (X.keeps k) t1 t2 hs t n t3 pm t4 tk4 k302 k301 k303 kin cin hQ)
end Mine

set_option maxRecDepth 100000
set_option maxHeartbeats 4000000
namespace Mine
open PySem.Calls

theorem In_nil {h : Heap} : Frag.In [] h := fun _ _ e => nomatch e
theorem In_cons {h : Heap} {K : Frag} {a : Addr} {o : Obj} (e : h.get? a = some o) (X : K.In h) : Frag.In ((a, o) :: K) h := by
  intro b p q
  rw [List.lookup_cons] at q
  split at q
  · rename_i z; cases q; rw [beq_iff_eq.mp z]; exact e
  · exact X b p q
structure Tks where
  t1 : Tok
  t2 : Tok
  hs : Nat → Int
  t : Nat → Tok
  n : Nat
  t3 : Tok
  p1 : Value
  p2 : Value
  p3 : Value
  p4 : Value
  p5 : Value
def K1 (v : Tks) : Frag := [(302, o302 v.t1 v.t2), (301, o301 v.hs v.t v.n), (303, o303 v.t3),
  (266, fobj 3 [("mycmp", 243)] (.ref 265) (.ref 259) v.p1), (274, fobj 4 [("mycmp", 243)] (.ref 273) (.ref 267) v.p2), (282, fobj 5 [("mycmp", 243)] (.ref 281) (.ref 275) v.p3),
  (290, fobj 6 [("mycmp", 243)] (.ref 289) (.ref 283) v.p4), (298, fobj 7 [("mycmp", 243)] (.ref 297) (.ref 291) v.p5)]
theorem CF.frag {h : Heap} (C : CF h) : ∃ v, (K1 v).In h := by
  obtain ⟨⟨t1, t2, k302⟩, ⟨hs, t, n, k301⟩, ⟨t3, k303⟩, -, -, -, ⟨p1, e1⟩, -, ⟨p2, e2⟩, -, ⟨p3, e3⟩, -, ⟨p4, e4⟩, -, ⟨p5, e5⟩, -⟩ := C
  exact ⟨⟨t1, t2, hs, t, n, t3, p1, p2, p3, p4, p5⟩, In_cons k302 (In_cons k301 (In_cons k303 (In_cons e1 (In_cons e2 (In_cons e3 (In_cons e4 (In_cons e5 In_nil)))))))⟩
theorem Inst.at {h : Heap} {x a : Addr} (i : Inst h x a) : ∃ d od, InstAt h x ⟨.ref 302, some d, .plain, #[some (.ref a)]⟩ 302 (some od) := let ⟨d, od, e, e'⟩ := i; ⟨d, od, e, rfl, rfl, e'⟩

section
variable {w : World} {A : Around} {E : Value → Shared → Prop} {s : Shared}
theorem get_obj {x a : Addr} {expr : Bool} {Q : Value → Shared → Prop} (C : CF s.heap) (i : Inst s.heap x a) (h : Q (.ref a) { s with toks := s.toks + 1 }) : wpAny (MM w) A (getAttr (.ref x) "obj" expr) Q E s := by
  obtain ⟨v, X⟩ := C.frag
  obtain ⟨d, od, I⟩ := i.at
  exact get_bind X I (by kernel_rfl) (findObj_data (a := .ref 303) (g := .builtin "member_descriptor.__get__") (by kernel_rfl) (by kernel_rfl) (by kernel_rfl) (by kernel_rfl)) (by kernel_rfl)
    (wpAny_call (slot_get (s := { s with toks := s.toks + 1 }) (i := 0) X I (by kernel_rfl) rfl (handed_on rfl h)))

theorem nm_free {env : Env} {x : Str} {pos : Pos} {c : Addr} {cl : Value} {d : Option Addr} {v : Value} {sl : Array (Option Value)} {Q : Value → Shared → Prop} (hc : env.cells.lookup x = some c) (ho : s.heap.get? c = some ⟨cl, d, .cell (some v), sl⟩) (h : Q v s)
    (hk : env.scope.kind = .function := by rfl) (hx : env.kindOf x = some .free := by rfl) (hd : (x == ("__debug__" : Str)) = false := by decide) (hn : (x == ("__classdict__" : Str)) = false := by decide) :
    wpAny (MM w) A (eval (.Name x pos) env) Q E s := by
  refine wpAny_Name ?_ hd
  unfold loadName
  simp only [Env.blockKind, hk, hx, ScopeKind.isAnnotationScope, Bool.false_and, Bool.false_eq_true, if_false, hn]
  refine wpAny_bind (m := cellOf env x) (wpAny_of_eq (a := c) (by unfold cellOf; rw [hc]) ?_)
  refine wpAny_bind (wpAny_bind (wpAny_load ho (wpAny_pure (wpAny_pure h))))
end

/-- the five methods: what each asks of the rank -/
def askOp : CmpOp → Int → Bool
  | .Lt, r => decide (r < 0)
  | .Gt, r => decide (r > 0)
  | .Eq, r => decide (r = 0)
  | .LtE, r => decide (r ≤ 0)
  | .GtE, r => decide (r ≥ 0)
  | _, _ => false

theorem enterC {w : World} {A : Around} {s : Shared} {R : Result → Shared → Prop} {a : Addr} {o : Obj} {args : Args} (fd : FuncData) (body : List Stmt) (binds : List (Str × Value)) (hroom : A.depth < recursionLimit) (X : (KK w).In s.heap)
    (ho : s.heap.get? a = some o) (e2 : o.data = .func fd) (e3 : s.heap.CodeRec fd.code fd.qualname) (e4 : fd.body = .stmts body)
    (hbind : bindArgs fd args = pure binds) (hcell : fd.scope.names.all (fun x => x.2 != .cell) = true) (hloc : binds.all (fun x => fd.scope.names.lookup x.1 == some .local) = true)
    (hco : fd.scope.isCoroutine = false) (hgen : fd.scope.isGenerator = false) (hk : fd.scope.kind = .function)
    (h : ∀ h₀, h₀.Ns s.heap.objs.size (fun x => binds.reverse.lookup x) → Kp s.heap h₀ →
      wpAny (MM w) (A.deeper (callEnv fd s.heap.objs.size a)) (execs body (callEnv fd s.heap.objs.size a)) (fun f s' => R (.ok (.ret (match f with | .ret v => v | _ => .none))) s')
        (fun e s' => wpAny (MM w) (A.deeper (callEnv fd s.heap.objs.size a)) (leaving (callEnv fd s.heap.objs.size a) e) (fun _ s'' => R (.error e) s'') (fun e' s'' => R (.error e') s'') s')
        { s with heap := h₀, toks := s.toks + binds.length }) : codeAny (MM w) A (.call (.ref a) args) R s :=
  codeAny_call_def hroom ho e2 (noLimit X) e3 e4 (BindsTo.of_eq hbind)
    (fun x hx => by have := List.all_eq_true.mp hcell x hx; intro e; rw [e] at this; exact absurd this (by decide))
    (fun x hx => by have := List.all_eq_true.mp hloc x hx; simpa using this) h hco hgen hk
theorem meth_lt {w : World} {capw : Str → Str} (cap : ∀ (h : Heap) (s : Str) (t : Tok), s.length ≤ 1000000 → (KK w).In h → Cl w 3 h (.ref 38) [.str s t] (fun v _ => ∃ t', v = .str (capw s) t'))
    {h : Heap} (X : (KK w).In h) (C : CF h) {x y a b : Addr} {u v : Str} (ix : Inst h x a) (iy : Inst h y b) (ha : Title h a u) (hb : Title h b v) :
    Cl w 7 h (.ref 266) [.ref x, .ref y] (fun r _ => r = .bool (askOp .Lt (rk (cp (capw u)) (cp (capw v))))) := by
  intro A s Q E ok k hQ
  have X' := X.keeps k
  have C' := C.kp k
  obtain ⟨pm, kf⟩ := C'.klt
  obtain ⟨tc, tkc, kc⟩ := C'.clt
  refine wpAny_call ?_
  refine enterC (fnK (stAt clsBody 3) [("mycmp", 243)] (.ref 265) (.ref 259) pm) (bodyOf (stAt clsBody 3)) [("self", .ref x), ("other", .ref y)] ok.room X' kf rfl ⟨265, _, _, tc 1, by kernel_rfl, kc, rfl, by kernel_rfl⟩ (by kernel_rfl) (by kernel_rfl) (by kernel_rfl) (by kernel_rfl) (by kernel_rfl) (by kernel_rfl) (by kernel_rfl) ?_
  intro h₁ N₁ k₁
  have F₁ : Fr s.heap s.heap.objs.size h₁ _ := ⟨N₁, k₁, Nat.le_refl _⟩
  have ok1 := ok.deeper (callEnv (fnK (stAt clsBody 3) [("mycmp", 243)] (.ref 265) (.ref 259) pm) s.heap.objs.size 266)
  refine wpAny_execs_cons (wpAny_Return_some ?_)
  refine wpAny_Compare1 ?_
  refine Call_ ?_
  refine nm_free (w := w) (c := 243) (v := .ref 55) (by kernel_rfl) (k₁ _ _ C'.k243) ?_ (by kernel_rfl) (by kernel_rfl)
  refine callWith_def (o := ob w 55) (fd := fdAt w 55) (by kernel_rfl) ?_ (by kernel_rfl)
  refine args_cons ?_ (by kernel_rfl)
  refine Attribute_Name_ ?_
  refine nm_local F₁.ns (v := .ref x) (by kernel_rfl) ?_ (by kernel_rfl) (by kernel_rfl)
  refine get_obj (C'.kp k₁) (ix.kp (k.trans k₁)) ?_
  refine args_cons ?_ (by kernel_rfl)
  refine Attribute_Name_ ?_
  refine nm_local F₁.ns (v := .ref y) (by kernel_rfl) ?_ (by kernel_rfl) (by kernel_rfl)
  refine get_obj (C'.kp k₁) (iy.kp (k.trans k₁)) ?_
  refine args_nil ?_
  refine ⟨ob_at (X'.keeps k₁) 55 (by kernel_rfl), ?_⟩
  refine rank_c cap (X'.keeps k₁) (ha.kp (k.trans k₁)) (hb.kp (k.trans k₁)) _ _ _ _ (ok1.le (by decide)) (Kp.refl _) ?_
  rintro _ s2 nx2 ⟨t2, rfl⟩
  refine wpAny_Constant_int ?_
  refine P.lt_int ?_
  exact hQ _ _ ⟨k₁.trans nx2.kp, nx2.gens, nx2.dr, nx2.os⟩ rfl

theorem meth_gt {w : World} {capw : Str → Str} (cap : ∀ (h : Heap) (s : Str) (t : Tok), s.length ≤ 1000000 → (KK w).In h → Cl w 3 h (.ref 38) [.str s t] (fun v _ => ∃ t', v = .str (capw s) t'))
    {h : Heap} (X : (KK w).In h) (C : CF h) {x y a b : Addr} {u v : Str} (ix : Inst h x a) (iy : Inst h y b) (ha : Title h a u) (hb : Title h b v) :
    Cl w 7 h (.ref 274) [.ref x, .ref y] (fun r _ => r = .bool (askOp .Gt (rk (cp (capw u)) (cp (capw v))))) := by
  intro A s Q E ok k hQ
  have X' := X.keeps k
  have C' := C.kp k
  obtain ⟨pm, kf⟩ := C'.kgt
  obtain ⟨tc, tkc, kc⟩ := C'.cgt
  refine wpAny_call ?_
  refine enterC (fnK (stAt clsBody 4) [("mycmp", 243)] (.ref 273) (.ref 267) pm) (bodyOf (stAt clsBody 4)) [("self", .ref x), ("other", .ref y)] ok.room X' kf rfl ⟨273, _, _, tc 1, by kernel_rfl, kc, rfl, by kernel_rfl⟩ (by kernel_rfl) (by kernel_rfl) (by kernel_rfl) (by kernel_rfl) (by kernel_rfl) (by kernel_rfl) (by kernel_rfl) ?_
  intro h₁ N₁ k₁
  have F₁ : Fr s.heap s.heap.objs.size h₁ _ := ⟨N₁, k₁, Nat.le_refl _⟩
  have ok1 := ok.deeper (callEnv (fnK (stAt clsBody 4) [("mycmp", 243)] (.ref 273) (.ref 267) pm) s.heap.objs.size 274)
  refine wpAny_execs_cons (wpAny_Return_some ?_)
  refine wpAny_Compare1 ?_
  refine Call_ ?_
  refine nm_free (w := w) (c := 243) (v := .ref 55) (by kernel_rfl) (k₁ _ _ C'.k243) ?_ (by kernel_rfl) (by kernel_rfl)
  refine callWith_def (o := ob w 55) (fd := fdAt w 55) (by kernel_rfl) ?_ (by kernel_rfl)
  refine args_cons ?_ (by kernel_rfl)
  refine Attribute_Name_ ?_
  refine nm_local F₁.ns (v := .ref x) (by kernel_rfl) ?_ (by kernel_rfl) (by kernel_rfl)
  refine get_obj (C'.kp k₁) (ix.kp (k.trans k₁)) ?_
  refine args_cons ?_ (by kernel_rfl)
  refine Attribute_Name_ ?_
  refine nm_local F₁.ns (v := .ref y) (by kernel_rfl) ?_ (by kernel_rfl) (by kernel_rfl)
  refine get_obj (C'.kp k₁) (iy.kp (k.trans k₁)) ?_
  refine args_nil ?_
  refine ⟨ob_at (X'.keeps k₁) 55 (by kernel_rfl), ?_⟩
  refine rank_c cap (X'.keeps k₁) (ha.kp (k.trans k₁)) (hb.kp (k.trans k₁)) _ _ _ _ (ok1.le (by decide)) (Kp.refl _) ?_
  rintro _ s2 nx2 ⟨t2, rfl⟩
  refine wpAny_Constant_int ?_
  refine P.gt_int ?_
  exact hQ _ _ ⟨k₁.trans nx2.kp, nx2.gens, nx2.dr, nx2.os⟩ rfl

theorem meth_eq {w : World} {capw : Str → Str} (cap : ∀ (h : Heap) (s : Str) (t : Tok), s.length ≤ 1000000 → (KK w).In h → Cl w 3 h (.ref 38) [.str s t] (fun v _ => ∃ t', v = .str (capw s) t'))
    {h : Heap} (X : (KK w).In h) (C : CF h) {x y a b : Addr} {u v : Str} (ix : Inst h x a) (iy : Inst h y b) (ha : Title h a u) (hb : Title h b v) :
    Cl w 7 h (.ref 282) [.ref x, .ref y] (fun r _ => r = .bool (askOp .Eq (rk (cp (capw u)) (cp (capw v))))) := by
  intro A s Q E ok k hQ
  have X' := X.keeps k
  have C' := C.kp k
  obtain ⟨pm, kf⟩ := C'.keq
  obtain ⟨tc, tkc, kc⟩ := C'.ceq
  refine wpAny_call ?_
  refine enterC (fnK (stAt clsBody 5) [("mycmp", 243)] (.ref 281) (.ref 275) pm) (bodyOf (stAt clsBody 5)) [("self", .ref x), ("other", .ref y)] ok.room X' kf rfl ⟨281, _, _, tc 1, by kernel_rfl, kc, rfl, by kernel_rfl⟩ (by kernel_rfl) (by kernel_rfl) (by kernel_rfl) (by kernel_rfl) (by kernel_rfl) (by kernel_rfl) (by kernel_rfl) ?_
  intro h₁ N₁ k₁
  have F₁ : Fr s.heap s.heap.objs.size h₁ _ := ⟨N₁, k₁, Nat.le_refl _⟩
  have ok1 := ok.deeper (callEnv (fnK (stAt clsBody 5) [("mycmp", 243)] (.ref 281) (.ref 275) pm) s.heap.objs.size 282)
  refine wpAny_execs_cons (wpAny_Return_some ?_)
  refine wpAny_Compare1 ?_
  refine Call_ ?_
  refine nm_free (w := w) (c := 243) (v := .ref 55) (by kernel_rfl) (k₁ _ _ C'.k243) ?_ (by kernel_rfl) (by kernel_rfl)
  refine callWith_def (o := ob w 55) (fd := fdAt w 55) (by kernel_rfl) ?_ (by kernel_rfl)
  refine args_cons ?_ (by kernel_rfl)
  refine Attribute_Name_ ?_
  refine nm_local F₁.ns (v := .ref x) (by kernel_rfl) ?_ (by kernel_rfl) (by kernel_rfl)
  refine get_obj (C'.kp k₁) (ix.kp (k.trans k₁)) ?_
  refine args_cons ?_ (by kernel_rfl)
  refine Attribute_Name_ ?_
  refine nm_local F₁.ns (v := .ref y) (by kernel_rfl) ?_ (by kernel_rfl) (by kernel_rfl)
  refine get_obj (C'.kp k₁) (iy.kp (k.trans k₁)) ?_
  refine args_nil ?_
  refine ⟨ob_at (X'.keeps k₁) 55 (by kernel_rfl), ?_⟩
  refine rank_c cap (X'.keeps k₁) (ha.kp (k.trans k₁)) (hb.kp (k.trans k₁)) _ _ _ _ (ok1.le (by decide)) (Kp.refl _) ?_
  rintro _ s2 nx2 ⟨t2, rfl⟩
  refine wpAny_Constant_int ?_
  refine P.eq_int ?_
  exact hQ _ _ ⟨k₁.trans nx2.kp, nx2.gens, nx2.dr, nx2.os⟩ rfl

theorem meth_le {w : World} {capw : Str → Str} (cap : ∀ (h : Heap) (s : Str) (t : Tok), s.length ≤ 1000000 → (KK w).In h → Cl w 3 h (.ref 38) [.str s t] (fun v _ => ∃ t', v = .str (capw s) t'))
    {h : Heap} (X : (KK w).In h) (C : CF h) {x y a b : Addr} {u v : Str} (ix : Inst h x a) (iy : Inst h y b) (ha : Title h a u) (hb : Title h b v) :
    Cl w 7 h (.ref 290) [.ref x, .ref y] (fun r _ => r = .bool (askOp .LtE (rk (cp (capw u)) (cp (capw v))))) := by
  intro A s Q E ok k hQ
  have X' := X.keeps k
  have C' := C.kp k
  obtain ⟨pm, kf⟩ := C'.kle
  obtain ⟨tc, tkc, kc⟩ := C'.cle
  refine wpAny_call ?_
  refine enterC (fnK (stAt clsBody 6) [("mycmp", 243)] (.ref 289) (.ref 283) pm) (bodyOf (stAt clsBody 6)) [("self", .ref x), ("other", .ref y)] ok.room X' kf rfl ⟨289, _, _, tc 1, by kernel_rfl, kc, rfl, by kernel_rfl⟩ (by kernel_rfl) (by kernel_rfl) (by kernel_rfl) (by kernel_rfl) (by kernel_rfl) (by kernel_rfl) (by kernel_rfl) ?_
  intro h₁ N₁ k₁
  have F₁ : Fr s.heap s.heap.objs.size h₁ _ := ⟨N₁, k₁, Nat.le_refl _⟩
  have ok1 := ok.deeper (callEnv (fnK (stAt clsBody 6) [("mycmp", 243)] (.ref 289) (.ref 283) pm) s.heap.objs.size 290)
  refine wpAny_execs_cons (wpAny_Return_some ?_)
  refine wpAny_Compare1 ?_
  refine Call_ ?_
  refine nm_free (w := w) (c := 243) (v := .ref 55) (by kernel_rfl) (k₁ _ _ C'.k243) ?_ (by kernel_rfl) (by kernel_rfl)
  refine callWith_def (o := ob w 55) (fd := fdAt w 55) (by kernel_rfl) ?_ (by kernel_rfl)
  refine args_cons ?_ (by kernel_rfl)
  refine Attribute_Name_ ?_
  refine nm_local F₁.ns (v := .ref x) (by kernel_rfl) ?_ (by kernel_rfl) (by kernel_rfl)
  refine get_obj (C'.kp k₁) (ix.kp (k.trans k₁)) ?_
  refine args_cons ?_ (by kernel_rfl)
  refine Attribute_Name_ ?_
  refine nm_local F₁.ns (v := .ref y) (by kernel_rfl) ?_ (by kernel_rfl) (by kernel_rfl)
  refine get_obj (C'.kp k₁) (iy.kp (k.trans k₁)) ?_
  refine args_nil ?_
  refine ⟨ob_at (X'.keeps k₁) 55 (by kernel_rfl), ?_⟩
  refine rank_c cap (X'.keeps k₁) (ha.kp (k.trans k₁)) (hb.kp (k.trans k₁)) _ _ _ _ (ok1.le (by decide)) (Kp.refl _) ?_
  rintro _ s2 nx2 ⟨t2, rfl⟩
  refine wpAny_Constant_int ?_
  refine P.le_int ?_
  exact hQ _ _ ⟨k₁.trans nx2.kp, nx2.gens, nx2.dr, nx2.os⟩ rfl

theorem meth_ge {w : World} {capw : Str → Str} (cap : ∀ (h : Heap) (s : Str) (t : Tok), s.length ≤ 1000000 → (KK w).In h → Cl w 3 h (.ref 38) [.str s t] (fun v _ => ∃ t', v = .str (capw s) t'))
    {h : Heap} (X : (KK w).In h) (C : CF h) {x y a b : Addr} {u v : Str} (ix : Inst h x a) (iy : Inst h y b) (ha : Title h a u) (hb : Title h b v) :
    Cl w 7 h (.ref 298) [.ref x, .ref y] (fun r _ => r = .bool (askOp .GtE (rk (cp (capw u)) (cp (capw v))))) := by
  intro A s Q E ok k hQ
  have X' := X.keeps k
  have C' := C.kp k
  obtain ⟨pm, kf⟩ := C'.kge
  obtain ⟨tc, tkc, kc⟩ := C'.cge
  refine wpAny_call ?_
  refine enterC (fnK (stAt clsBody 7) [("mycmp", 243)] (.ref 297) (.ref 291) pm) (bodyOf (stAt clsBody 7)) [("self", .ref x), ("other", .ref y)] ok.room X' kf rfl ⟨297, _, _, tc 1, by kernel_rfl, kc, rfl, by kernel_rfl⟩ (by kernel_rfl) (by kernel_rfl) (by kernel_rfl) (by kernel_rfl) (by kernel_rfl) (by kernel_rfl) (by kernel_rfl) ?_
  intro h₁ N₁ k₁
  have F₁ : Fr s.heap s.heap.objs.size h₁ _ := ⟨N₁, k₁, Nat.le_refl _⟩
  have ok1 := ok.deeper (callEnv (fnK (stAt clsBody 7) [("mycmp", 243)] (.ref 297) (.ref 291) pm) s.heap.objs.size 298)
  refine wpAny_execs_cons (wpAny_Return_some ?_)
  refine wpAny_Compare1 ?_
  refine Call_ ?_
  refine nm_free (w := w) (c := 243) (v := .ref 55) (by kernel_rfl) (k₁ _ _ C'.k243) ?_ (by kernel_rfl) (by kernel_rfl)
  refine callWith_def (o := ob w 55) (fd := fdAt w 55) (by kernel_rfl) ?_ (by kernel_rfl)
  refine args_cons ?_ (by kernel_rfl)
  refine Attribute_Name_ ?_
  refine nm_local F₁.ns (v := .ref x) (by kernel_rfl) ?_ (by kernel_rfl) (by kernel_rfl)
  refine get_obj (C'.kp k₁) (ix.kp (k.trans k₁)) ?_
  refine args_cons ?_ (by kernel_rfl)
  refine Attribute_Name_ ?_
  refine nm_local F₁.ns (v := .ref y) (by kernel_rfl) ?_ (by kernel_rfl) (by kernel_rfl)
  refine get_obj (C'.kp k₁) (iy.kp (k.trans k₁)) ?_
  refine args_nil ?_
  refine ⟨ob_at (X'.keeps k₁) 55 (by kernel_rfl), ?_⟩
  refine rank_c cap (X'.keeps k₁) (ha.kp (k.trans k₁)) (hb.kp (k.trans k₁)) _ _ _ _ (ok1.le (by decide)) (Kp.refl _) ?_
  rintro _ s2 nx2 ⟨t2, rfl⟩
  refine wpAny_Constant_int ?_
  refine P.ge_int ?_
  exact hQ _ _ ⟨k₁.trans nx2.kp, nx2.gens, nx2.dr, nx2.os⟩ rfl

/-- what a comparison gives, at every later heap -/
def Co (w : World) (n : Nat) (h : Heap) (op : CmpOp) (a b : Value) (P : Value → Heap → Prop) : Prop :=
  ∀ (A : Around) (s : Shared) (Q : Value → Shared → Prop) (E : Value → Shared → Prop), Okay n A → Kp h s.heap → (∀ v s', Nx s s' → P v s'.heap → Q v s') → wpAny (MM w) A (compareOp op a b) Q E s

theorem rich {w : World} {A : Around} {E : Value → Shared → Prop} {s : Shared} {op : CmpOp} {f x y : Addr} {K : Frag} {C : Addr} {ox oy : Obj} {dx dy : Option Obj} {Q : Value → Shared → Prop} (hu : A.units < cLine) (X : K.In s.heap)
    (I : InstAt s.heap x ox C dx) (J : InstAt s.heap y oy C dy) (hs : findIn K (.ref C) (cmpInfo op).2.1 = some (some (.ref f))) (hf : isFn K (.ref f) = true)
    (h : wpAny (MM w) A (call (.ref f) [.ref x, .ref y]) (PySem.W.CmpBack Q) E s) : wpAny (MM w) A (richCompare op (.ref x) (.ref y)) Q E s := by
  have one : wpAny (MM w) A (tryCompare (.ref x) (cmpInfo op).2.1 (.ref y)) (fun r s' => ∃ v, r = some v ∧ Q v s') E s := by
    unfold tryCompare
    refine wpAny_bind (ifBound_K X I hs hf (wpAny_mono h (fun v s' hv => ?_) fun _ _ e => e))
    cases v <;> first | exact hv.elim | exact wpAny_pure ⟨_, rfl, hv⟩
  unfold richCompare
  simp only [oneThing_ref]
  refine wpAny_holding (wpAny_bind (wpAny_cRoomFor hu ?_))
  refine wpAny_bind (I.type.here (wpAny_bind (J.type.here ?_)))
  simp only [bne_self_eq_false, Bool.false_eq_true, if_false]
  refine wpAny_bind (wpAny_pure ?_)
  refine wpAny_bind (wpAny_mono one (fun r s' z => ?_) fun _ _ e => e)
  obtain ⟨v, rfl, hq⟩ := z
  exact wpAny_pure hq

theorem cmp_c {w : World} {capw : Str → Str} (cap : ∀ (h : Heap) (s : Str) (t : Tok), s.length ≤ 1000000 → (KK w).In h → Cl w 3 h (.ref 38) [.str s t] (fun v _ => ∃ t', v = .str (capw s) t'))
    {h : Heap} (X : (KK w).In h) (C : CF h) {x y a b : Addr} {u v : Str} (ix : Inst h x a) (iy : Inst h y b) (ha : Title h a u) (hb : Title h b v) (op : CmpOp) (hop : op ∈ [CmpOp.Lt, .Gt, .Eq, .LtE, .GtE]) :
    Co w 7 h op (.ref x) (.ref y) (fun r _ => r = .bool (askOp op (rk (cp (capw u)) (cp (capw v))))) := by
  intro A s Q E ok k hQ
  have hu : A.units < cLine := by have := ok.un; show A.units < 9900; omega
  obtain ⟨vv, Xv⟩ := (C.kp k).frag
  obtain ⟨d, od, I⟩ := (ix.kp k).at
  obtain ⟨d', od', J⟩ := (iy.kp k).at
  simp only [List.mem_cons, List.not_mem_nil, or_false] at hop
  rcases hop with rfl | rfl | rfl | rfl | rfl
  · exact cmp_ofLt (rich hu Xv I J (f := 266) (by kernel_rfl) (by kernel_rfl) (meth_lt cap X C ix iy ha hb _ _ _ _ ok k fun v s' nx e => by subst e; exact hQ _ _ nx rfl))
  · exact cmp_ofGt (rich hu Xv I J (f := 274) (by kernel_rfl) (by kernel_rfl) (meth_gt cap X C ix iy ha hb _ _ _ _ ok k fun v s' nx e => by subst e; exact hQ _ _ nx rfl))
  · exact cmp_ofEq (rich hu Xv I J (f := 282) (by kernel_rfl) (by kernel_rfl) (meth_eq cap X C ix iy ha hb _ _ _ _ ok k fun v s' nx e => by subst e; exact hQ _ _ nx rfl))
  · exact cmp_ofLtE (rich hu Xv I J (f := 290) (by kernel_rfl) (by kernel_rfl) (meth_le cap X C ix iy ha hb _ _ _ _ ok k fun v s' nx e => by subst e; exact hQ _ _ nx rfl))
  · exact cmp_ofGtE (rich hu Xv I J (f := 298) (by kernel_rfl) (by kernel_rfl) (meth_ge cap X C ix iy ha hb _ _ _ _ ok k fun v s' nx e => by subst e; exact hQ _ _ nx rfl))
end Mine

set_option maxRecDepth 100000
set_option maxHeartbeats 4000000
namespace Mine
open PySem.Calls Builtin
theorem slot_map_next : Slot "map" "__next__" "map.__next__" :=
  .of (owner := "map") (n := "__next__") (by rw [typeLookup_type, builtinLookup_eq_fast]; kernel_rfl) (by decide +kernel) (by decide +kernel) (by decide +kernel)
    (by first | exact .inl (by decide +kernel) | exact .inr (by decide +kernel)) (by rw [isSubtype_type]; kernel_rfl)
theorem slot_map_iter : Slot "map" "__iter__" "map.__iter__" :=
  .of (owner := "map") (n := "__iter__") (by rw [typeLookup_type, builtinLookup_eq_fast]; kernel_rfl) (by decide +kernel) (by decide +kernel) (by decide +kernel)
    (by first | exact .inl (by decide +kernel) | exact .inr (by decide +kernel)) (by rw [isSubtype_type]; kernel_rfl)
theorem entry_map_next : entryFor table "map.__next__" = some Builtin.«map.__next__» := entryFor_of_fast (by kernel_rfl)
theorem entry_map_iter : entryFor table "map.__iter__" = some Builtin.«dict_keyiterator.__iter__» :=
  entryFor_alias (id' := "dict_keyiterator.__iter__") (by kernel_rfl) rfl (by decide +kernel) (by kernel_rfl)
theorem args_map_next (a : Value) : argsOk "map.__next__" ⟨[a], []⟩ := by unfold argsOk; kernel_rfl
theorem args_map_iter (a : Value) : argsOk "map.__iter__" ⟨[a], []⟩ := by unfold argsOk; kernel_rfl
section
variable {prog : Program} {w : World} {A : Around} {E : Value → Shared → Prop} {s : Shared}
theorem li_item {it l : Addr} {i : Nat} {items : Array Value} {x : Value} {Q : Option Value → Shared → Prop} (hit : s.heap.IsListIter it l i)
    (hl : s.heap.IsList l items) (hx : items[i]? = some x)
    (hQ : ∀ h', h'.IsListIter it l (i + 1) → Heap.SameBut it s.heap h' → Q (some x) { s with heap := h' }) :
    wpAny (model prog w) A (callSpecial? (.ref it) "__next__") Q E s := by
  obtain ⟨o, ho, hc, hd⟩ := id hit
  obtain ⟨ol, hol, _, nl, hdl⟩ := hl
  refine wpAny_callSpecial?_slot (name := Str.ofString "__next__") hit.typeIs slot_listiter_next (wpAny_call_entry slot_listiter_next hit.typeIs entry_listiter_next ?_ (args_listiter_next _))
  show wpAny _ _ (field (.ref it) 0 >>= _) _ _ s
  refine wpAny_bind (wpAny_field ho hd (x := .ref l) rfl ?_)
  show wpAny _ _ (if (Value.ref l == Value.none) = true then _ else _) _ _ s
  rw [if_neg (show ¬ ((Value.ref l == Value.none) = true) from Bool.false_ne_true)]
  show wpAny _ _ (field (.ref it) 1 >>= _) _ _ s
  refine wpAny_bind (wpAny_field ho hd (x := .int i 0) rfl ?_)
  show wpAny _ _ (seqItems? (.ref l) >>= _) _ _ s
  refine wpAny_bind (wpAny_seqItems hol hdl ?_)
  simp only [Int.toNat_natCast, hx]
  refine wpAny_bind (wpAny_setField ho hd (by simp) (wpAny_pure ⟨x, rfl, hQ _ ?_ (Heap.SameBut.update ..)⟩))
  exact ⟨_, Heap.get?_update_self _ ho (Obj.isFreed_of_fields (Obj.data_mapFields hd _)), (Obj.cls_mapFields ..).trans hc, by
    rw [Obj.data_mapFields hd]; simp [rawInt]⟩
theorem li_end {it l : Addr} {i : Nat} {items : Array Value} {Q : Option Value → Shared → Prop} (hh : A.handled = none) (hit : s.heap.IsListIter it l i)
    (hl : s.heap.IsList l items) (hx : items[i]? = none)
    (hE : ∀ h' e o, h'.get? e = some o → o.cls = .type "StopIteration" → Heap.ExtBut it s.heap h' → h'.objs.size = s.heap.objs.size + 2 → E (.ref e) { s with heap := h' }) :
    wpAny (model prog w) A (callSpecial? (.ref it) "__next__") Q E s := by
  obtain ⟨o, ho, hc, hd⟩ := id hit
  obtain ⟨ol, hol, _, nl, hdl⟩ := hl
  refine wpAny_callSpecial?_slot (name := Str.ofString "__next__") hit.typeIs slot_listiter_next (wpAny_call_entry slot_listiter_next hit.typeIs entry_listiter_next ?_ (args_listiter_next _))
  show wpAny _ _ (field (.ref it) 0 >>= _) _ _ s
  refine wpAny_bind (wpAny_field ho hd (x := .ref l) rfl ?_)
  show wpAny _ _ (if (Value.ref l == Value.none) = true then _ else _) _ _ s
  rw [if_neg (show ¬ ((Value.ref l == Value.none) = true) from Bool.false_ne_true)]
  show wpAny _ _ (field (.ref it) 1 >>= _) _ _ s
  refine wpAny_bind (wpAny_field ho hd (x := .int i 0) rfl ?_)
  show wpAny _ _ (seqItems? (.ref l) >>= _) _ _ s
  refine wpAny_bind (wpAny_seqItems hol hdl ?_)
  simp only [Int.toNat_natCast, hx]
  refine wpAny_bind (wpAny_rule (wpAny_bind (wpAny_setField ho hd (by simp) ?_)))
  show wpAny _ _ (newExc (.type "StopIteration") [] >>= _) _ _ _
  refine wpAny_bind ?_
  simp only [newExc, newTuple]
  refine wpAny_bind (wpAny_newObj_type ?_ (by size_fits))
  refine wpAny_bind (m := firstArgMember _ _) (wpAny_of_eq (a := Value.none) (by first | rfl | (simp only [firstArgMember]; rfl)) ?_)
  refine wpAny_newObj_type ?_ (by size_fits)
  simp only [raiseNew]
  refine wpAny_bind (wpAny_handled ?_)
  rw [show A.in1.handled = none from hh]
  refine wpAny_bind (wpAny_pure (wpAny_throw ?_))
  refine hE _ _ _ (Heap.get?_push_size _ rfl) rfl (((Heap.SameBut.update ..).extBut.push _).push _) ?_
  rw [Heap.size_push, Heap.size_push, (Heap.SameBut.update ..).1]
end

/-- a map of str.capitalize over a list's iterator -/
def IsMap (h : Heap) (m tp it : Addr) : Prop := h.get? m = some ⟨.type "map", none, .fields #[.ref tp, .builtin "str.capitalize"], #[]⟩ ∧ h.get? tp = some ⟨.type "tuple", none, .seq #[.ref it] 0, #[]⟩ ∧ tp ≠ it ∧ m ≠ it
section
variable {prog : Program} {w : World} {A : Around} {E : Value → Shared → Prop} {s : Shared}
theorem IsMap.typeIs {m tp it : Addr} (x : IsMap s.heap m tp it) : s.TypeIs (.ref m) "map" := ⟨_, x.1, rfl⟩
theorem map_item {m tp it l : Addr} {i : Nat} {items : Array Value} {x : Str} {t : Tok} {Q : Option Value → Shared → Prop} (hm : IsMap s.heap m tp it) (hit : s.heap.IsListIter it l i)
    (hl : s.heap.IsList l items) (hx : items[i]? = some (.str x t)) (hz : x.length ≤ 5000000)
    (hQ : ∀ h' t' k, h'.IsListIter it l (i + 1) → Heap.SameBut it s.heap h' → s.toks ≤ k → Q (some (.str (Txt.capitalize x) t')) { s with heap := h', toks := k }) :
    wpAny (model prog w) A (pyNext (.ref m)) Q E s := by
  obtain ⟨e1, e2, n1, n2⟩ := id hm
  unfold pyNext
  refine wpAny_bind (wpAny_attempt (wpAny_callSpecial?_slot (name := Str.ofString "__next__") hm.typeIs slot_map_next (wpAny_call_entry slot_map_next hm.typeIs entry_map_next ?_ (args_map_next _))))
  unfold «map.__next__»
  refine wpAny_bind (wpAny_of_eq (a := (Value.ref m, [])) rfl ?_)
  refine wpAny_bind (wpAny_field e1 rfl (x := .ref tp) rfl ?_)
  refine wpAny_bind (wpAny_seqItems e2 rfl ?_)
  simp only [List.forIn_toArray, List.forIn_cons, List.forIn_nil]
  refine wpAny_bind (wpAny_bind (wpAny_bind (wpAny_holding ?_)))
  unfold SmallTypes.nextOf
  refine wpAny_bind (li_item hit hl hx fun h' i' sb => ?_)
  refine wpAny_pure (wpAny_pure (wpAny_pure ?_))
  refine wpAny_bind (wpAny_field (sb.extBut _ _ n2 e1) rfl (x := .builtin "str.capitalize") rfl ?_)
  refine wpAny_bind (wpAny_holding ?_)
  refine wpAny_with_toks (n := s.toks) (Nat.le_refl _) ?_
  refine SCL.capitalize (by omega) fun t' k hz' htk => ?_
  refine wpAny_bind (wpAny_letGo (wpAny_pure ⟨_, rfl, wpAny_pure ?_⟩))
  exact hQ h' t' _ i' sb htk
theorem map_end {m tp it l : Addr} {i : Nat} {items : Array Value} {Q : Option Value → Shared → Prop} (hh : A.handled = none) (hm : IsMap s.heap m tp it) (hit : s.heap.IsListIter it l i)
    (hl : s.heap.IsList l items) (hx : items[i]? = none)
    (hQ : ∀ h', Heap.ExtBut it s.heap h' → Q none { s with heap := h' }) :
    wpAny (model prog w) A (pyNext (.ref m)) Q E s := by
  obtain ⟨e1, e2, n1, n2⟩ := id hm
  unfold pyNext
  refine wpAny_bind (wpAny_attempt (wpAny_callSpecial?_slot (name := Str.ofString "__next__") hm.typeIs slot_map_next (wpAny_call_entry slot_map_next hm.typeIs entry_map_next ?_ (args_map_next _))))
  unfold «map.__next__»
  refine wpAny_bind (wpAny_of_eq (a := (Value.ref m, [])) rfl ?_)
  refine wpAny_bind (wpAny_field e1 rfl (x := .ref tp) rfl ?_)
  refine wpAny_bind (wpAny_seqItems e2 rfl ?_)
  simp only [List.forIn_toArray, List.forIn_cons, List.forIn_nil]
  refine wpAny_bind (wpAny_bind (wpAny_bind (wpAny_holding ?_)))
  unfold SmallTypes.nextOf
  refine wpAny_bind (li_end hh hit hl hx fun h' e o he hc sb _ => ?_)
  refine wpAny_bind (wpAny_isInstance (T := "StopIteration") (b := true) ⟨_, he, hc⟩ isSubtype_stop ?_)
  exact wpAny_pure (hQ h' sb)
end

structure MapSt (m tp it l : Addr) (items : Array Value) (i : Nat) (s : Shared) : Prop where
  mp : IsMap s.heap m tp it
  li : s.heap.IsListIter it l i
  ls : s.heap.IsList l items
theorem MapSt.ne {m tp it l : Addr} {items : Array Value} {i : Nat} {s : Shared} (x : MapSt m tp it l items i s) : l ≠ it := by
  rintro rfl
  obtain ⟨o, e, c, _⟩ := x.li
  obtain ⟨o', e', c', _⟩ := x.ls
  rw [e] at e'; cases e'; rw [c] at c'; simp at c'
def capP (items : Array Value) (i : Nat) (v : Value) : Prop := ∃ x t t', items[i]? = some (.str x t) ∧ v = .str (Txt.capitalize x) t'
theorem map_walks {prog : Program} {w : World} {A : Around} {m tp it l : Addr} {items : Array Value} (hA : A.handled = none) (hs : ∀ i, i < items.size → ∃ x t, items[i]? = some (.str x t) ∧ x.length ≤ 5000000) :
    WalksS prog w A m [m, tp, it, l] [it] (fun a b => b = a) items.size (capP items) (MapSt m tp it l items) where
  sub := by intro b hb; rw [List.mem_singleton] at hb; subst hb; simp
  grefl := fun _ => rfl
  gtrans := fun _ _ _ h1 h2 => h2.trans h1
  frame := fun i s h' tk st _ k => by
    obtain ⟨⟨e1, e2, n1, n2⟩, ⟨o, e3, c3⟩, ⟨o', e4, c4⟩⟩ := st
    exact ⟨⟨k _ (by simp) _ e1, k _ (by simp) _ e2, n1, n2⟩, ⟨o, k _ (by simp) _ e3, c3⟩, ⟨o', k _ (by simp) _ e4, c4⟩⟩
  item := fun i s Q E hi st hQ => by
    obtain ⟨x, t, hx, hz⟩ := hs i hi
    refine map_item st.mp st.li st.ls hx hz fun h' t' k li sb htk => ?_
    refine hQ _ _ ⟨x, t, t', hx, rfl⟩ ⟨⟨sb.extBut _ _ st.mp.2.2.2 st.mp.1, sb.extBut _ _ st.mp.2.2.1 st.mp.2.1, st.mp.2.2.1, st.mp.2.2.2⟩, li, st.ls.extBut sb.extBut st.ne⟩ ⟨fun b o hb e => sb.extBut b o (by simpa using hb) e, rfl, rfl, rfl, htk⟩
  done := fun s Q E st hQ => map_end hA st.mp st.li st.ls (by simp) fun h' sb => hQ _ ⟨fun b o hb e => sb b o (by simpa using hb) e, rfl, rfl, rfl, Nat.le_refl _⟩
  self := fun i s Q E st hQ => by
    refine wpAny_pyIter_slot st.mp.typeIs slot_map_iter (wpAny_call_entry slot_map_iter st.mp.typeIs entry_map_iter ?_ (args_map_iter _))
    show wpAny _ _ (ret (.ref m)) _ _ s
    exact wpAny_pure ⟨_, rfl, "map", _, st.mp.typeIs, slot_map_next.lookup, hQ⟩

theorem map_no_len : typeLookup (.type "map") "__len__" = pure none := by rw [typeLookup_type, builtinLookup_eq_fast]; kernel_rfl
theorem map_no_hint : typeLookup (.type "map") "__length_hint__" = pure none := by rw [typeLookup_type, builtinLookup_eq_fast]; kernel_rfl
section
variable {prog : Program} {w : World} {A : Around} {E : Value → Shared → Prop} {s : Shared}
theorem collect_map {m tp it l : Addr} {items : Array Value} {Q : List Value → Shared → Prop} (hA : A.handled = none) (hs : ∀ i, i < items.size → ∃ x t, items[i]? = some (.str x t) ∧ x.length ≤ 5000000) (hst : MapSt m tp it l items 0 s)
    (hQ : ∀ s' acc, Moved [it] (fun a b => b = a) s s' → ItemsOf (capP items) acc items.size → Q acc.toList s') (hn : items.size ≤ sizeLine) : wpAny (model prog w) A (collect (.ref m)) Q E s := by
  have W := map_walks (prog := prog) (w := w) (A := A.in1) (tp := tp) (it := it) (l := l) (m := m) hA hs
  have lt : ∀ b ∈ [m, tp, it, l], b < s.heap.objs.size := by
    obtain ⟨⟨e1, e2, n1, n2⟩, ⟨o, e3, c3⟩, ⟨o', e4, c4⟩⟩ := hst
    intro b hb
    simp only [List.mem_cons, List.not_mem_nil, or_false] at hb
    rcases hb with rfl | rfl | rfl | rfl
    · exact Heap.lt_size e1
    · exact Heap.lt_size e2
    · exact Heap.lt_size e3
    · exact Heap.lt_size e4
  have off : s.heap.objs.size ∉ [m, tp, it, l] := fun hm => Nat.lt_irrefl _ (lt _ hm)
  have offm : s.heap.objs.size ≠ m := fun e => off (by rw [e]; simp)
  unfold collect
  refine wpAny_bind (wpAny_runValue (codeAny_builtin F.entry_proto_collect ?_))
  rw [Around.under_plainId F.plain_proto_collect _]
  show wpAny _ A.in1 (newList [] >>= fun r => again (.builtin "list.__iadd__" ⟨[r, .ref m], []⟩)) _ _ s
  refine wpAny_bind (wpAny_newObj_type ?_)
  refine wpAny_pure ⟨plainId_quiet F.plain_list_iadd _, codeAny_builtin F.entry_list_iadd ?_⟩
  rw [Around.under_plainId F.plain_list_iadd _]
  let H := s.heap.push { cls := .type "list", data := .seq ([] : List Value).toArray }
  have st1 : MapSt m tp it l items 0 { s with heap := H } := W.frame 0 s H s.toks hst (Nat.le_refl _) fun b _ o e => Heap.get?_push_of_some _ e
  show wpAny _ A.in1 (Builtin.List.listExtendWith (.ref s.heap.objs.size) (.ref m) (.ref s.heap.objs.size)) _ _ _
  unfold Builtin.List.listExtendWith
  refine wpAny_bind (wpAny_typeOf st1.mp.typeIs ?_)
  have h1 : Builtin.List.listSameRef (.ref s.heap.objs.size) (.ref m) = false := by simp [Builtin.List.listSameRef, offm]
  simp only [h1, show (Value.type "map" == Value.type "list") = false by decide, show (Value.type "map" == Value.type "tuple") = false by decide, Bool.or_false, Bool.false_eq_true, if_false]
  refine wpAny_bind (W.self 0 _ _ _ st1 ?_)
  refine wpAny_bind (wpAny_holding ?_)
  unfold Builtin.List.listLengthHint
  refine wpAny_bind (wpAny_specialOf st1.mp.typeIs map_no_len ?_)
  show wpAny _ A.in1 (specialOf (Value.ref m) (Str.ofString "__length_hint__") >>= _) _ _ _
  refine wpAny_bind (wpAny_specialOf st1.mp.typeIs map_no_hint ?_)
  refine wpAny_pure ?_
  show wpAny _ A.in1 (rule "list.extend.makes-room" >>= fun _ => Builtin.List.listTouch (.ref s.heap.objs.size) >>= fun _ =>
    again (.builtin "list.extend.loop" ⟨[.ref s.heap.objs.size, .ref m, .ref s.heap.objs.size], []⟩)) _ _ _
  refine wpAny_bind (wpAny_rule ?_)
  have g1 : H.get? s.heap.objs.size = some { cls := .type "list", data := .seq ([] : List Value).toArray } := Heap.get?_push_size _ rfl
  refine wpAny_bind ?_
  show wpAny _ A.in1 (updateSeq s.heap.objs.size (·.push .none) >>= fun _ => updateSeq s.heap.objs.size (·.pop)) _ _ _
  refine wpAny_bind (wpAny_updateSeq g1 rfl ?_)
  have g2 := Heap.get?_update_self (Obj.mapSeq (·.push Value.none)) g1 rfl
  refine wpAny_updateSeq g2 rfl ?_
  have g3 := Heap.get?_update_self (Obj.mapSeq (·.pop)) g2 rfl
  have oth : ∀ b o, b ≠ s.heap.objs.size → H.get? b = some o → ((H.update s.heap.objs.size (Obj.mapSeq (·.push Value.none))).update s.heap.objs.size (Obj.mapSeq (·.pop))).get? b = some o :=
    fun b o hb e => (Heap.get?_update_other _ _ (Ne.symm hb)).trans ((Heap.get?_update_other _ _ (Ne.symm hb)).trans e)
  refine wpAny_pure ⟨plainId_quiet F.plain_extend_loop _, codeAny_extend_loopS W hn _ off _ items.size 0 _ _ _ rfl (Nat.zero_le _)
    (W.frame 0 { s with heap := H } _ s.toks st1 (Nat.le_refl _) fun b hb o e => oth b o (fun h => off (h ▸ hb)) e) g3 (ItemsOf.nil _) fun s' acc' c' hm hS' hacc => ?_⟩
  show wpAny _ A (load s.heap.objs.size >>= _) _ _ s'
  refine wpAny_bind (wpAny_load hS' ?_)
  refine wpAny_pure (hQ s' acc' ⟨fun b o hb e => ?_, hm.gens, hm.drawn, hm.os, hm.toks⟩ hacc)
  have hne : b ≠ s.heap.objs.size := Nat.ne_of_lt (Heap.lt_size e)
  exact hm.heap b o (fun q => by rcases List.mem_cons.mp q with q | q; exact hne q; exact hb q) (oth b o hne (Heap.get?_push_of_some _ e))
end
end Mine

set_option maxRecDepth 100000
set_option maxHeartbeats 40000000
namespace Mine
open PySem.Calls PySem.W.X
theorem nx_end {s : Shared} {Q : Value → Shared → Prop} {v : Value} {h' : Heap} {news : List (Addr × Obj)} {t : Nat}
    (hQ : ∀ s', Nx s s' → Q v s') (D : Mem s.heap h' [] news) : Q v ⟨h', s.gens, s.drawn, t, s.os⟩ := hQ _ ⟨mem_kp D, rfl, rfl, rfl⟩
section
local macro_rules | `(tactic| x_close) => `(tactic| exact nx_end (by assumption) (by first | assumption | exact Mem.start _))
theorem tga0 (w : World) (s : Shared) (t : Tok) (Q E : Value → Shared → Prop) (X : (KP w.params).In s.heap) (hQ : ∀ s', Nx s s' → Q (.builtin "str.capitalize") s') :
    wpAny (model PR w) AA (call (.builtin "type.__getattribute__") [.type "str", .str "capitalize" t]) Q E s := by
  x_run
end
def tpOf (o : Option (Addr × Obj)) : Addr := match o with | some (_, ⟨_, _, .fields vs, _⟩) => (match (vs[0]? : Option Value) with | some (Value.ref a) => a | _ => 0) | _ => 0
def itOf (o : Option (Addr × Obj)) : Addr := match o with | some (_, ⟨_, _, .seq vs _, _⟩) => (match (vs[0]? : Option Value) with | some (Value.ref a) => a | _ => 0) | _ => 0
theorem map_fin {s : Shared} {Q : Value → Shared → Prop} {l m : Addr} {h' : Heap} {news : List (Addr × Obj)} {t : Nat}
    (hQ : ∀ m tp it s', Nx s s' → IsMap s'.heap m tp it → s'.heap.IsListIter it l 0 → s.heap.get? it = none → Q (.ref m) s') (D : Mem s.heap h' [] news)
    (h0 : news[0]? = some (m, ⟨.type "map", none, .fields #[.ref (tpOf news[0]?), .builtin "str.capitalize"], #[]⟩))
    (h1 : news[1]? = some (tpOf news[0]?, ⟨.type "tuple", none, .seq #[.ref (itOf news[1]?)] 0, #[]⟩))
    (h2 : news[2]? = some (itOf news[1]?, ⟨.type "list_iterator", none, .fields #[.ref l, .int 0 0], #[]⟩)) :
    Q (.ref m) ⟨h', s.gens, s.drawn, t, s.os⟩ :=
  hQ _ _ _ _ ⟨mem_kp D, rfl, rfl, rfl⟩ ⟨D.at 0 _ _ h0, D.at 1 _ _ h1, D.ne 1 2 _ _ _ _ h1 h2 rfl, D.ne 0 2 _ _ _ _ h0 h2 rfl⟩ ⟨_, D.at 2 _ _ h2, rfl, rfl⟩ (D.nw _ (List.mem_of_getElem? h2)).2
section
local macro_rules | `(tactic| x_close) => `(tactic| (refine map_fin (by assumption) (by assumption) ?h0 ?h1 ?h2; all_goals kernel_rfl))
theorem mk_map0 (w : World) (s : Shared) (l : Addr) (items : Array Value) (n : Nat) (Q E : Value → Shared → Prop) (X : (KP w.params).In s.heap) (hl : s.heap.get? l = some ⟨.type "list", none, .seq items n, #[]⟩)
    (hQ : ∀ m tp it s', Nx s s' → IsMap s'.heap m tp it → s'.heap.IsListIter it l 0 → s.heap.get? it = none → Q (.ref m) s') :
    wpAny (model PR w) AA (call (.type "map") [.builtin "str.capitalize", .ref l]) Q E s := by
  x_run
end
end Mine

set_option maxRecDepth 100000
set_option maxHeartbeats 4000000
namespace Mine
open PySem.Calls PySem.Builtin PySem.Builtin.Str
theorem ga {w : World} {A : Around} {s : Shared} {Q E : Value → Shared → Prop} (ok : Okay 0 A) (X : (KK w).In s.heap) (hQ : ∀ s', Nx s s' → Q (.builtin "str.capitalize") s') :
    wpAny (MM w) A (getAttr (.type "str") "capitalize" true) Q E s := by
  refine wpAny_bind (wpAny_mkText (wpAny_holding (wpAny_bind (wpAny_of_eq (a := .type "type") rfl (wpAny_bind (wpAny_of_eq KF.slot_tga.lookup ?_))))))
  dsimp only
  rw [show (onTheHeap (.type "type") && Value.builtin "type.__getattribute__" == Value.builtin "object.__getattribute__") = false from by rw [show (Value.builtin "type.__getattribute__" == Value.builtin "object.__getattribute__") = false from by decide +kernel, Bool.and_false], if_neg (by decide)]
  refine wpAny_bind (wpAny_of_eq (a := none) rfl (wpAny_bind (wpAny_attempt (wpAny_holding ?_))))
  unfold callGetattribute
  rw [show (true && onTheHeap (Value.builtin "type.__getattribute__")) = false from Bool.and_false _, if_neg (by decide)]
  unfold boundAndCalled
  rw [KF.slot_tga.bind]
  refine wpAny_bind (wpAny_pure ?_)
  show wpAny _ _ (call (.builtin "type.__getattribute__") [.type "str", .str "capitalize" s.toks]) _ _ _
  refine wk ok (tga0 w { s with toks := s.toks + 1 } _ _ _ X fun s' nx => ?_)
  exact handed_on (by decide +kernel) (hQ _ ⟨nx.kp, nx.gens, nx.dr, nx.os⟩)

theorem mk_map {w : World} {A : Around} {s : Shared} {Q E : Value → Shared → Prop} {l : Addr} {items : Array Value} {n : Nat} (ok : Okay 0 A) (X : (KK w).In s.heap) (hl : s.heap.get? l = some ⟨.type "list", none, .seq items n, #[]⟩)
    (hQ : ∀ m tp it s', Nx s s' → IsMap s'.heap m tp it → s'.heap.IsListIter it l 0 → s.heap.get? it = none → Q (.ref m) s') :
    wpAny (MM w) A (call (.type "map") [.builtin "str.capitalize", .ref l]) Q E s := wk ok (mk_map0 w s l items n Q E X hl hQ)

theorem join_map {w : World} {A : Around} {s : Shared} {E : Value → Shared → Prop} {m tp it l : Addr} {items : Array Value} {x : Str} {t : Tok} {Q : Value → Shared → Prop} (hA : A.handled = none)
    (hs : ∀ i, i < items.size → ∃ x t, items[i]? = some (.str x t) ∧ x.length ≤ 5000000) (hst : MapSt m tp it l items 0 s) (hn : items.size ≤ sizeLine)
    (hq : ∀ s' (l : List (Str × Tok)), Moved [it] (fun a b => b = a) s s' → ItemsOf (capP items) (strValues l).toArray items.size → JoinOk x (l.map (·.1)) = true ∧ ∀ t' k, Q (.str (Txt.join x (l.map (·.1))) t') { s' with toks := k }) :
    wpAny (MM w) A (call (.builtin "str.join") [.str x t, .ref m]) Q E s := by
  refine wpAny_call (codeAny_call_builtin F.slot_str_join.plain F.entry_str_join (F.slot_str_join.check _ _ _ _ _ _ _ _ (typeIs_str _ _ _) (F.args_str_join_2 _ _) ?_))
  rw [join_tree_other]
  refine wpAny_bind (wpAny_typeOf hst.mp.typeIs ?_)
  show wpAny _ A.in1 ((pyIter (.ref m)).tryCatch _ >>= fun it => collect it >>= fun items => joinTail x items) _ _ s
  refine wpAny_bind (wpAny_tryCatch ((map_walks (prog := PR) (w := w) (A := A.in1) hA hs).self 0 s _ _ hst ?_))
  refine wpAny_bind (collect_map hA hs hst (fun s' acc hm hacc => ?_) hn)
  obtain ⟨l, hl⟩ := exists_strValues acc.toList fun v hv => by
    obtain ⟨j, hj, rfl⟩ := Array.mem_iff_getElem.mp (Array.mem_toList_iff.mp hv)
    obtain ⟨x, t, t', _, e⟩ := hacc.2 j _ (Array.getElem?_eq_getElem hj)
    exact ⟨_, _, e⟩
  rw [← hl]
  have hacc' : ItemsOf (capP items) (strValues l).toArray items.size := by rw [hl]; simpa using hacc
  obtain ⟨hok, hpost⟩ := hq s' l hm hacc'
  unfold JoinOk at hok
  rw [Bool.not_eq_true'] at hok
  have g : Gives (joinTail x (strValues l)) (joinMade x l) := by
    have g0 := gives_joinTail x l hok
    cases l with
    | nil => exact g0
    | cons p r => cases r with
      | nil => exact g0
      | cons q r' => exact g0
  exact g PR w A (wants Q E) s' (post_join l ⟨joinFit_length hok, hpost⟩)

def capw (s : Str) : Str := Txt.join " " ((Txt.words s).map Txt.capitalize)
theorem caps_of {l l' : List (Str × Tok)} (h : ItemsOf (capP (strValues l).toArray) (strValues l').toArray (strValues l).toArray.size) : l'.map (·.1) = (l.map (·.1)).map Txt.capitalize := by
  obtain ⟨h1, h2⟩ := h
  have e : l'.length = l.length := by simpa [strValues] using h1
  refine List.ext_getElem? fun i => ?_
  by_cases hi : i < l.length
  · have hi' : i < l'.length := by omega
    obtain ⟨x, t, t', q1, q2⟩ := h2 i (.str l'[i].1 l'[i].2) (by simp [strValues, hi'])
    simp [strValues, hi] at q1
    injection q2 with q2 _
    simp [hi, hi', q2, q1.1]
  · simp [hi, e]
theorem list_kp {h h' : Heap} {a : Addr} {items : Array Value} (x : h.IsList a items) (k : Kp h h') : h'.IsList a items := let ⟨o, e, r⟩ := x; ⟨o, k _ _ e, r⟩
theorem nref {x : Str} {t : Tok} {s : Shared} : ∀ a, Value.str x t = .ref a → ∃ ob, s.heap.get? a = some ob ∧ ob.dict = none := fun _ e => by cases e
def bindK (fd : FuncData) (pos : List Value) : {k : Option (Array Value) → Sem (List (Str × Value)) // bindArgs fd ⟨pos, []⟩ = seqItems? fd.defaults >>= k} := ⟨_, rfl⟩
theorem cap_c {w : World} (h : Heap) (s : Str) (t : Tok) (hz : s.length ≤ 1000000) (X : (KK w).In h) : Cl w 3 h (.ref 38) [.str s t] (fun v _ => ∃ t', v = .str (capw s) t') := by
  intro A s₀ Q E ok k hQ
  have X' := X.keeps k
  refine wpAny_call ?_
  have ht : (KK w).lookup 31 = some (ob w 31) := by kernel_rfl
  have hb : BindsTo s₀ (fdAt w 38) ⟨[.str s t], []⟩ [("s", .str s t), ("sep", .none)] :=
    BindsTo.of_defaults (T := 31) (o := ob w 31) (items := #[.none]) (n := 0) (by kernel_rfl) (ob_at X' 31 ht) (by kernel_rfl) (bindK (fdAt w 38) [.str s t]).2 (by kernel_rfl)
  refine enterB (fdAt w 38) (bdAt w 38) [("s", .str s t), ("sep", .none)] ok.room X' (by kernel_rfl) (by kernel_rfl) (by kernel_rfl) (by kernel_rfl) hb (by kernel_rfl) (by kernel_rfl) (by kernel_rfl) (by kernel_rfl) (by kernel_rfl) ?_
  intro h₁ N₁ k₁
  have F₁ : Fr s₀.heap s₀.heap.objs.size h₁ _ := ⟨N₁, k₁, Nat.le_refl _⟩
  have ok1 := ok.deeper (callEnv (fdAt w 38) s₀.heap.objs.size 38)
  refine wpAny_execs_cons (wpAny_Return_some ?_)
  refine Call_method1 (by kernel_rfl) (by kernel_rfl) (by kernel_rfl) ?_
  refine BoolOp_or ?_
  refine nm_local F₁.ns (v := .none) (by kernel_rfl) ?_ (by kernel_rfl) (by kernel_rfl)
  refine wpAny_of_eq (a := false) rfl ?_
  rw [if_neg (by decide)]
  refine BoolOp_one ?_
  refine wpAny_Constant_str ?_
  refine ⟨"str", "str.join", F.plainAttrs_str, F.slot_str_join, F.type_str_join, typeIs_str _ _ _, nref, ?_⟩
  refine callWith_builtin rfl (evalArgs_plain (spliced_cons ?_))
  refine Call_ ?_
  refine nm_blt (w := w) (X'.keeps F₁.keep) (v := .type "map") (by kernel_rfl) (by kernel_rfl) ?_ (by kernel_rfl) (by kernel_rfl) (by kernel_rfl) (by kernel_rfl)
  refine callWith_type1 ?_ (by kernel_rfl) (by kernel_rfl)
  refine args_cons ?_ (by kernel_rfl)
  refine Attribute_Name_ ?_
  refine nm_blt (w := w) (X'.keeps F₁.keep) (v := .type "str") (by kernel_rfl) (by kernel_rfl) ?_ (by kernel_rfl) (by kernel_rfl) (by kernel_rfl) (by kernel_rfl)
  refine ga (ok1.le (by decide)) (X'.keeps F₁.keep) fun s2 nx2 => ?_
  have F2 := F₁.keeps nx2.kp
  refine args_cons ?_ (by kernel_rfl)
  refine Call_method1 (by kernel_rfl) (by kernel_rfl) (by kernel_rfl) ?_
  refine nm_local F2.ns (v := .str s t) (by kernel_rfl) ?_ (by kernel_rfl) (by kernel_rfl)
  refine ⟨"str", "str.split", F.plainAttrs_str, F.slot_str_split, F.type_str_split, typeIs_str _ _ _, nref, ?_⟩
  refine callWith_builtin rfl (evalArgs_plain (spliced_cons ?_))
  refine nm_local F2.ns (v := .none) (by kernel_rfl) ?_ (by kernel_rfl) (by kernel_rfl)
  refine spliced_nil ?_
  refine splitN0None F2 News.nil (fun l h3 tk hw _ hsh il F3 N3 => ?_) (by size_fits)
  refine args_nil ?_
  have X3 : (KK w).In h3 := X'.keeps F3.keep
  have e3 := News.get N3 (.head _)
  refine mk_map (ok1.le (by decide)) X3 e3 fun m tp it s4 nx4 im li hit => ?_
  refine spliced_nil ?_
  have hlen : (strValues l).toArray.size = l.length := by simp [strValues]
  have hsz := len_le_of_words hw
  refine join_map (tp := tp) (it := it) (l := s2.heap.objs.size) (items := (strValues l).toArray) ok1.hd ?_ ⟨im, li, list_kp il nx4.kp⟩ (by rw [hlen]; size_fits) ?_
  · intro i hi
    have hi' : i < l.length := by omega
    refine ⟨l[i].1, l[i].2, by simp [strValues, hi'], ?_⟩
    have := hsh l[i].1 (List.mem_map_of_mem (List.getElem_mem hi'))
    omega
  · intro s5 l' mv ac
    have e5 := caps_of ac
    rw [e5, hw]
    refine ⟨?_, fun t' k => hQ _ _ ⟨fun b o e => ?_, ?_, ?_, ?_⟩ ⟨t', rfl⟩⟩
    · have := joinOk_short3 (sep := " ") (ss := Txt.words s) (pz := fun _ => true) (f := Txt.capitalize) (n := s.length) (StrLaws.words_weight s) (by omega) short3_capitalize (by decide)
      rwa [List.filter_eq_self.mpr (fun _ _ => rfl)] at this
    · have e3' := F3.keep b o e
      exact mv.heap b o (fun hm => by rw [List.mem_singleton] at hm; subst hm; rw [hit] at e3'; cases e3') (nx4.kp _ _ e3')
    · exact mv.gens.trans (nx4.gens.trans nx2.gens)
    · exact mv.drawn.trans (nx4.dr.trans nx2.dr)
    · exact mv.os.trans (nx4.os.trans nx2.os)
end Mine

set_option maxRecDepth 100000
set_option maxHeartbeats 4000000
namespace Mine
open PySem.Calls

abbrev tab : Str := ⟨#[9]⟩
/-! ## _law_line -/
theorem line_c {w : World} {h : Heap} (X : (KK w).In h) {a : Addr} {l u : Str} {t : Tok} (hz : l.length ≤ 100000) (ha : Title h a u) :
    Cl w 5 h (.ref 62) [.str l t, .ref a] (fun r _ => ∃ t', r = .str (capw (l ++ tab ++ u)) t') := by
  intro A s Q E ok k hQ
  have X' := X.keeps k
  refine wpAny_call ?_
  refine enter (fdAt w 62) (bdAt w 62) [("line", .str l t), ("thing", .ref a)] ok.room X' (by kernel_rfl) (by kernel_rfl) (by kernel_rfl) (by kernel_rfl) (by kernel_rfl) (by kernel_rfl) (by kernel_rfl) (by kernel_rfl) (by kernel_rfl) (by kernel_rfl) ?_
  intro h₁ N₁ k₁
  have F₁ : Fr s.heap s.heap.objs.size h₁ _ := ⟨N₁, k₁, Nat.le_refl _⟩
  have ok1 := ok.deeper (callEnv (fdAt w 62) s.heap.objs.size 62)
  have hu := ha.1
  refine wpAny_execs_cons (wpAny_Return_some ?_)
  refine Call_ ?_
  refine nm_glob (w := w) (X'.keeps F₁.keep) (v := .ref 38) (by kernel_rfl) ?_ (by kernel_rfl) (by kernel_rfl) (by kernel_rfl)
  with_reducible refine callWith_def (o := ob w 38) (fd := fdAt w 38) (by kernel_rfl) ?_ (by kernel_rfl)
  refine args_cons ?_ (by kernel_rfl)
  refine wpAny_BinOp ?_
  refine wpAny_BinOp ?_
  refine nm_local F₁.ns (v := .str l t) (by kernel_rfl) ?_ (by kernel_rfl) (by kernel_rfl)
  refine wpAny_Constant_str ?_
  refine PyProof.Rows.add_str (fun t1 k1 => ?_) (by show l.length + 1 ≤ 16777216; omega)
  refine Subscript_ ?_
  refine nm_local F₁.ns (v := .ref a) (by kernel_rfl) ?_ (by kernel_rfl) (by kernel_rfl)
  refine wpAny_Constant_int ?_
  obtain ⟨ka, ta, ta', la⟩ := (ha.kp (k.trans F₁.keep)).list
  refine item_at la (by decide) (by decide) rfl ?_
  refine PyProof.Rows.add_str (fun t2 k2 => ?_) (by rw [Str.length_append]; show l.length + 1 + u.length ≤ 16777216; omega)
  refine args_nil ?_
  refine ⟨ob_at (X'.keeps F₁.keep) 38 (by kernel_rfl), ?_⟩
  refine cap_c _ (l ++ tab ++ u) t2 (by rw [Str.length_append, Str.length_append]; show l.length + 1 + u.length ≤ 1000000; omega) (X'.keeps F₁.keep) _ _ _ _ (ok1.le (by decide)) (Kp.refl _) ?_
  rintro _ s2 nx2 ⟨t3, rfl⟩
  exact hQ _ _ ⟨k₁.trans nx2.kp, nx2.gens, nx2.dr, nx2.os⟩ ⟨_, rfl⟩

/-! ## _law_five -/
theorem five_c {w : World} {h : Heap} {n : Nat} (X : (KK w).In h) {x y : Value} {f : CmpOp → Bool} (hc : ∀ op ∈ [CmpOp.Lt, .Gt, .LtE, .GtE, .Eq], Co w n h op x y (fun r _ => r = .bool (f op))) :
    ∀ (A : Around) (s : Shared) (Q E : Value → Shared → Prop), Okay (n + 1) A → Kp h s.heap → (∀ D s', Nx s s' → s'.heap.PlainList D #[.bool (f .Lt), .bool (f .Gt), .bool (f .LtE), .bool (f .GtE), .bool (f .Eq)] → s.heap.objs.size ≤ D → Q (.ref D) s') →
      wpAny (MM w) A (call (.ref 69) [x, y]) Q E s := by
  intro A s Q E ok k hQ
  have X' := X.keeps k
  refine wpAny_call ?_
  refine enter (fdAt w 69) (bdAt w 69) [("left", x), ("right", y)] ok.room X' (by kernel_rfl) (by kernel_rfl) (by kernel_rfl) (by kernel_rfl) (by kernel_rfl) (by kernel_rfl) (by kernel_rfl) (by kernel_rfl) (by kernel_rfl) (by kernel_rfl) ?_
  intro h₁ N₁ k₁
  have F₁ : Fr s.heap s.heap.objs.size h₁ _ := ⟨N₁, k₁, Nat.le_refl _⟩
  have ok1 := ok.deeper (callEnv (fdAt w 69) s.heap.objs.size 69)
  have one : ∀ {s1 : Shared} {op : CmpOp} {pos : Pos} {p1 p2 : Pos} {Q : Value → Shared → Prop} {E : Value → Shared → Prop}, op ∈ [CmpOp.Lt, .Gt, .LtE, .GtE, .Eq] → Fr s.heap s.heap.objs.size s1.heap (fun x_1 => List.lookup x_1 [(Str.ofString "left", x), (Str.ofString "right", y)].reverse) →
      (∀ s2, Fr s.heap s.heap.objs.size s2.heap (fun x_1 => List.lookup x_1 [(Str.ofString "left", x), (Str.ofString "right", y)].reverse) → Nx s1 s2 → Q (.bool (f op)) s2) →
      wpAny (MM w) (A.deeper (callEnv (fdAt w 69) s.heap.objs.size 69)) (eval (.Compare (.Name "left" p1) [op] [.Name "right" p2] pos) (callEnv (fdAt w 69) s.heap.objs.size 69)) Q E s1 := by
    intro s1 op pos p1 p2 Q E hop F hq
    refine wpAny_Compare1 ?_
    refine nm_local F.ns (v := x) (by kernel_rfl) ?_ (by kernel_rfl) (by kernel_rfl)
    refine nm_local F.ns (v := y) (by kernel_rfl) ?_ (by kernel_rfl) (by kernel_rfl)
    refine hc op hop _ _ _ _ ok1 (k.trans F.keep) ?_
    rintro _ s2 nx rfl
    exact hq s2 (F.keeps nx.kp) nx
  refine wpAny_execs_cons (wpAny_Return_some ?_)
  refine wpAny_List ?_
  refine args_cons ?_ (by kernel_rfl)
  refine one (by simp) F₁ fun s2 F2 nx2 => ?_
  refine args_cons ?_ (by kernel_rfl)
  refine one (by simp) F2 fun s3 F3 nx3 => ?_
  refine args_cons ?_ (by kernel_rfl)
  refine one (by simp) F3 fun s4 F4 nx4 => ?_
  refine args_cons ?_ (by kernel_rfl)
  refine one (by simp) F4 fun s5 F5 nx5 => ?_
  refine args_cons ?_ (by kernel_rfl)
  refine one (by simp) F5 fun s6 F6 nx6 => ?_
  refine args_nil ?_
  refine ⟨(by show 5 ≤ 16777216; decide), ?_⟩
  have nx := nx2.trans (nx3.trans (nx4.trans (nx5.trans nx6)))
  refine hQ _ _ ⟨k₁.trans (nx.kp.trans fun b o e => Heap.get?_push_of_some _ e), nx.gens, nx.dr, nx.os⟩ ⟨_, Heap.get?_push_size _ rfl⟩ (Nat.le_of_lt F6.ns.lt)

theorem rk_lt (a b : List Nat) : (rk a b < 0) ↔ a < b := by
  unfold rk
  by_cases he : a = b
  · subst he; simp [List.lt_irrefl]
  · by_cases hl : a < b <;> simp [he, hl]
theorem rk_eq (a b : List Nat) : (rk a b = 0) ↔ a = b := by
  unfold rk
  by_cases he : a = b
  · subst he; simp
  · by_cases hl : a < b <;> simp [he, hl]
theorem rk_gt (a b : List Nat) : (rk a b > 0) ↔ b < a := by
  unfold rk
  by_cases he : a = b
  · subst he; simp [List.lt_irrefl]
  · by_cases hl : a < b
    · simp [he, hl, List.lt_asymm hl]
    · simp [he, hl]
      exact Classical.byContradiction fun hh => he (List.le_antisymm (by simpa using hh) (by simpa using hl))
theorem co_str {w : World} {h : Heap} {x y : Str} {t u : Tok} : ∀ op ∈ [CmpOp.Lt, .Gt, .LtE, .GtE, .Eq], Co w 7 h op (.str x t) (.str y u) (fun r _ => r = .bool (askOp op (rk (cp x) (cp y)))) := by
  intro op hop A s Q E ok k hQ
  have q : ∀ b, b = askOp op (rk (cp x) (cp y)) → Q (.bool b) s := fun b e => hQ _ _ (Nx.refl s) (by rw [e])
  have a1 := rk_lt (cp x) (cp y)
  have a2 := rk_eq (cp x) (cp y)
  have a3 := rk_gt (cp x) (cp y)
  simp only [List.mem_cons, List.not_mem_nil, or_false] at hop
  rcases hop with rfl | rfl | rfl | rfl | rfl
  · refine P.lt_str (q _ ?_)
    exact decide_eq_decide.mpr a1.symm
  · refine P.gt_str (q _ ?_)
    exact decide_eq_decide.mpr a3.symm
  · refine P.le_str (q _ ?_)
    show (!decide _) = decide _
    rw [← decide_not]
    refine decide_eq_decide.mpr ?_
    rw [← a3]; omega
  · refine P.ge_str (q _ ?_)
    show (!decide _) = decide _
    rw [← decide_not]
    refine decide_eq_decide.mpr ?_
    rw [← a1]; omega
  · refine P.eq_str (q _ ?_)
    rw [Bool.eq_iff_iff]
    simp [askOp, a2]
end Mine

set_option maxRecDepth 100000
set_option maxHeartbeats 4000000
namespace Mine
open PySem.Calls

/-! ## reduce -/
def Kq (h h' : Heap) : Prop := ∀ b o xs n, h.get? b = some o → o.data = .seq xs n → h'.get? b = some o
theorem Kq.trans {a b c : Heap} (x : Kq a b) (y : Kq b c) : Kq a c := fun _ _ _ _ e d => y _ _ _ _ (x _ _ _ _ e d) d
theorem Kp.q {a b : Heap} (x : Kp a b) : Kq a b := fun _ _ _ _ e _ => x _ _ e
theorem Kq.but {a : Addr} {h h' : Heap} {o : Obj} (hs : Heap.SameBut a h h') (ho : h.get? a = some o) (hd : ∀ xs n, o.data ≠ .seq xs n) : Kq h h' :=
  fun b p xs n e d => hs.extBut b p (by rintro rfl; rw [ho] at e; cases e; exact absurd d (hd xs n)) e
theorem Kq.ext {a : Addr} {h h' : Heap} {o : Obj} (hs : Heap.ExtBut a h h') (ho : h.get? a = some o) (hd : ∀ xs n, o.data ≠ .seq xs n) : Kq h h' :=
  fun b p xs n e d => hs b p (by rintro rfl; rw [ho] at e; cases e; exact absurd d (hd xs n)) e
theorem ns_q {h h' : Heap} {L : Addr} {m : Str → Option Value} (hn : h.Ns L m) (hs : Heap.SameBut L h h') : Kq h h' := by
  obtain ⟨o, es, ep, ho, hd, _⟩ := hn
  exact Kq.but hs ho fun xs n e => by rw [hd] at e; cases e
theorem li_q {h h' : Heap} {I l : Addr} {i : Nat} (hn : h.IsListIter I l i) (hs : Heap.ExtBut I h h') : Kq h h' := by
  obtain ⟨o, ho, _, hd⟩ := hn
  exact Kq.ext hs ho fun xs n e => by rw [hd] at e; cases e
theorem pl_q {h h' : Heap} {D : Addr} {xs : Array Value} (x : h.PlainList D xs) (k : Kq h h') : h'.PlainList D xs := let ⟨n, e⟩ := x; ⟨n, k _ _ _ _ e rfl⟩
theorem pl_kp {h h' : Heap} {D : Addr} {xs : Array Value} (x : h.PlainList D xs) (k : Kp h h') : h'.PlainList D xs := pl_q x k.q

section
variable {w : World} {A : Around} {s : Shared} {E : Value → Shared → Prop}
theorem iter_list {l : Addr} {items : Array Value} {Q : Value → Shared → Prop} (hl : s.heap.IsList l items)
    (h : (s.heap.push { cls := .type "list_iterator", data := .fields #[.ref l, .int 0 0] }).IsListIter s.heap.objs.size l 0 → Q (.ref s.heap.objs.size) { s with heap := s.heap.push { cls := .type "list_iterator", data := .fields #[.ref l, .int 0 0] } }) :
    wpAny (MM w) A (call (.builtin "iter") [.ref l]) Q E s := by
  refine call_function_entry (by decide +kernel) (by decide +kernel) (entryFor_of_fast (by kernel_rfl) : entryFor table "iter" = some Builtin.«iter») (by unfold argsOk; kernel_rfl) ?_
  unfold Builtin.«iter»
  refine wpAny_bind (m := someArgs "iter" 1 2 _) (wpAny_of_eq (a := [Value.ref l]) (by first | rfl | kernel_rfl!) ?_)
  show wpAny _ _ (pyIter (.ref l) >>= _) _ _ _
  refine wpAny_bind (wpAny_pyIter_list hl ?_)
  exact wpAny_pure ⟨_, rfl, h ⟨_, Heap.get?_push_size _ rfl, rfl, rfl⟩⟩
theorem next_list {it l : Addr} {i : Nat} {items : Array Value} {x : Value} {Q : Value → Shared → Prop} (hit : s.heap.IsListIter it l i)
    (hl : s.heap.IsList l items) (hx : items[i]? = some x)
    (hQ : ∀ h', h'.IsListIter it l (i + 1) → Heap.SameBut it s.heap h' → Q x { s with heap := h' }) :
    wpAny (MM w) A (call (.builtin "next") [.ref it]) Q E s := by
  refine call_function_entry (by decide +kernel) (by decide +kernel) (entryFor_of_fast (by kernel_rfl) : entryFor table "next" = some Builtin.«next») (by unfold argsOk; kernel_rfl) ?_
  unfold Builtin.«next»
  refine wpAny_bind (m := someArgs "next" 1 2 _) (wpAny_of_eq (a := [Value.ref it]) (by first | rfl | kernel_rfl!) ?_)
  dsimp only
  refine wpAny_bind (wpAny_specialOf (name := Str.ofString "__next__") hit.typeIs slot_listiter_next.lookup ?_)
  refine wpAny_ite_split (fun hab => absurd hab (by decide)) (fun _ => ?_)
  refine wpAny_bind (li_item hit hl hx fun h' i' sb => ?_)
  exact wpAny_pure ⟨_, rfl, hQ h' i' sb⟩
end

structure RedSt (w : World) (s₀ : Shared) (L : Addr) (fa l I : Addr) (i : Nat) (v : Value) (s : Shared) : Prop where
  fr : ∃ m, Fr s₀.heap L s.heap m ∧ m "function" = some (.ref fa) ∧ m "it" = some (.ref I) ∧ m "value" = some v
  li : s.heap.IsListIter I l i
  gens : s.gens = s₀.gens
  dr : s.drawn = s₀.drawn
  os : s.os = s₀.os

theorem red_loop {w : World} {A : Around} {s₀ : Shared} {n : Nat} {h : Heap} {fa l I : Addr} {fo : Obj} {ffd : FuncData} (hf : h.get? fa = some fo) (hfd : fo.data = .func ffd) {items : Array Value} (hl : h.IsList l items)
    (Inv : Nat → Value → Heap → Prop) (mono : ∀ i v h1 h2, Kq h1 h2 → Inv i v h1 → Inv i v h2)
    (step : ∀ i v x h', Kp h h' → items[i]? = some x → Inv i v h' → Cl w n h' (.ref fa) [v, x] (fun v' h'' => Inv (i + 1) v' h''))
    (ok : Okay n A) (k : Kp h s₀.heap) (hI : s₀.heap.get? I = none) (hIL : I ≠ s₀.heap.objs.size) {i : Nat} {v : Value} {s : Shared} (hi : i ≤ items.size) (st : RedSt w s₀ s₀.heap.objs.size fa l I i v s) (iv : Inv i v s.heap)
    {Q : Flow → Shared → Prop} {E : Value → Shared → Prop} (hQ : ∀ v s', Nx s₀ s' → Inv items.size v s'.heap → Q (.ret v) s') :
    wpAny (MM w) A (execs ((bdAt w 30).drop 2) (callEnv (fdAt w 30) s₀.heap.objs.size 30)) Q E s := by
  have hlI : l ≠ I := by
    rintro rfl
    obtain ⟨o, e, _⟩ := hl
    rw [k _ _ e] at hI; cases hI
  obtain ⟨m, F, e1, e2, e3⟩ := st.fr
  refine wpAny_execs_cons ?_
  refine wpAny_For ?_ (by intro _; kernel_rfl)
  refine nm_local F.ns (v := .ref I) e2 ?_ (by kernel_rfl) (by kernel_rfl)
  refine wpAny_pyIter_listiter st.li ?_
  refine codeAny_forLoop (fun n s' => ∃ j v', n = items.size + 1 - j ∧ j ≤ items.size ∧ RedSt w s₀ s₀.heap.objs.size fa l I j v' s' ∧ Inv j v' s'.heap) ?_ (items.size + 1 - i) ⟨i, v, rfl, hi, st, iv⟩ (by intro _; kernel_rfl)
  rintro _ s1 ⟨j, v1, rfl, hj, st1, iv1⟩
  obtain ⟨m1, F1, f1, f2, f3⟩ := st1.fr
  cases hx : items[j]? with
  | none =>
    have hsz : j = items.size := Nat.le_antisymm hj (by simpa using hx)
    refine wpAny_pyNext_list_end ok.hd st1.li (list_kp hl (k.trans F1.keep)) hx fun h2 he => wpAny_execs_nil ?_
    have F2 : Fr s₀.heap s₀.heap.objs.size h2 m1 := ⟨F1.ns.extBut he (Ne.symm hIL), fun b o e => he b o (by rintro rfl; rw [hI] at e; cases e) (F1.keep b o e), F1.above⟩
    refine wpAny_execs_cons (wpAny_Return_some ?_)
    refine nm_local F2.ns (v := v1) f3 ?_ (by kernel_rfl) (by kernel_rfl)
    exact hQ _ _ ⟨F2.keep, st1.gens, st1.dr, st1.os⟩ (mono _ _ _ _ (li_q st1.li he) (hsz ▸ iv1))
  | some x =>
    have hlt : j < items.size := (Array.getElem?_eq_some_iff.mp hx).1
    refine wpAny_pyNext_list_item st1.li (list_kp hl (k.trans F1.keep)) hx fun h2 li2 sb2 => ?_
    have F2 : Fr s₀.heap s₀.heap.objs.size h2 m1 := ⟨F1.ns.sameBut sb2 (Ne.symm hIL), fun b o e => sb2.extBut b o (by rintro rfl; rw [hI] at e; cases e) (F1.keep b o e), F1.above⟩
    have iv2 := mono _ _ _ _ (li_q st1.li sb2.extBut) iv1
    refine wpAny_assign_Name (wpAny_storeName_local (by kernel_rfl) F2.ns (fun h3 N3 sb3 => ?_) (by kernel_rfl))
    have F3 := F2.set N3 sb3
    have iv3 := mono _ _ _ _ (ns_q F2.ns sb3) iv2
    have li3 := li2.extBut sb3.extBut hIL
    refine wpAny_execs_cons ?_
    refine wpAny_Assign_Name ?_ (by kernel_rfl)
    refine Call_ ?_
    refine nm_local F3.ns (v := .ref fa) (by rw [if_neg (by decide)]; exact f1) ?_ (by kernel_rfl) (by kernel_rfl)
    refine callWith_def (o := fo) (fd := ffd) hfd ?_ (by kernel_rfl)
    refine args_cons ?_ (by kernel_rfl)
    refine nm_local F3.ns (v := v1) (by rw [if_neg (by decide)]; exact f3) ?_ (by kernel_rfl) (by kernel_rfl)
    refine args_cons ?_ (by kernel_rfl)
    refine nm_local F3.ns (v := x) (by rw [if_pos (by decide)]) ?_ (by kernel_rfl) (by kernel_rfl)
    refine args_nil ?_
    refine ⟨F3.keep _ _ (k _ _ hf), ?_⟩
    refine step j v1 x h3 (k.trans F3.keep) hx iv3 _ _ _ _ ok (Kp.refl _) ?_
    intro v4 s4 nx4 iv4
    have F4 := F3.keeps nx4.kp
    refine wpAny_storeName_local (by kernel_rfl) F4.ns ?_ (by kernel_rfl)
    intro h5 N5 sb5
    have F5 := F4.set N5 sb5
    refine wpAny_execs_nil ?_
    refine ⟨items.size + 1 - (j + 1), by omega, j + 1, v4, rfl, hlt, ⟨⟨_, F5, ?_, ?_, ?_⟩, ?_, ?_, ?_, ?_⟩, mono _ _ _ _ (ns_q F4.ns sb5) iv4⟩
    · rw [if_neg (by decide), if_neg (by decide)]; exact f1
    · rw [if_neg (by decide), if_neg (by decide)]; exact f2
    · rw [if_pos (by decide)]
    · exact ((li3.at fun o e => nx4.kp _ _ e)).extBut sb5.extBut hIL
    · exact nx4.gens.trans st1.gens
    · exact nx4.dr.trans st1.dr
    · exact nx4.os.trans st1.os

theorem reduce_c {w : World} {n : Nat} {h : Heap} (X : (KK w).In h) {fa l : Addr} {fo : Obj} {ffd : FuncData} (hf : h.get? fa = some fo) (hfd : fo.data = .func ffd) {items : Array Value} (hl : h.IsList l items)
    (Inv : Nat → Value → Heap → Prop) (mono : ∀ i v h1 h2, Kq h1 h2 → Inv i v h1 → Inv i v h2)
    (step : ∀ i v x h', Kp h h' → items[i]? = some x → Inv i v h' → Cl w n h' (.ref fa) [v, x] (fun v' h'' => Inv (i + 1) v' h''))
    {v0 : Value} (h0 : Inv 0 v0 h) (hi : ∀ A s Q E, Kp h s.heap → Q (.bool false) s → wpAny (MM w) A (compareOp .Is v0 (.ref 22)) Q E s) :
    Cl w (n + 1) h (.ref 30) [.ref fa, .ref l, v0] (fun v h' => Inv items.size v h') := by
  intro A s Q E ok k hQ
  have X' := X.keeps k
  refine wpAny_call ?_
  have ht : (KK w).lookup 23 = some (ob w 23) := by kernel_rfl
  have hb : BindsTo s (fdAt w 30) ⟨[.ref fa, .ref l, v0], []⟩ [("function", .ref fa), ("sequence", .ref l), ("initial", v0)] :=
    BindsTo.of_defaults (T := 23) (o := ob w 23) (items := #[.ref 22]) (n := 0) (by kernel_rfl) (ob_at X' 23 ht) (by kernel_rfl) (bindK (fdAt w 30) [.ref fa, .ref l, v0]).2 (by kernel_rfl)
  refine enterB (fdAt w 30) (bdAt w 30) [("function", .ref fa), ("sequence", .ref l), ("initial", v0)] ok.room X' (by kernel_rfl) (by kernel_rfl) (by kernel_rfl) (by kernel_rfl) hb (by kernel_rfl) (by kernel_rfl) (by kernel_rfl) (by kernel_rfl) (by kernel_rfl) ?_
  intro h₁ N₁ k₁
  have F₁ : Fr s.heap s.heap.objs.size h₁ _ := ⟨N₁, k₁, Nat.le_refl _⟩
  have ok1 := ok.deeper (callEnv (fdAt w 30) s.heap.objs.size 30)
  have Xf := X'.keeps F₁.keep
  refine wpAny_execs_cons ?_
  refine wpAny_Assign_Name ?_ (by kernel_rfl)
  refine Call_ ?_
  refine nm_blt (w := w) Xf (v := .builtin "iter") (by kernel_rfl) (by kernel_rfl) ?_ (by kernel_rfl) (by kernel_rfl) (by kernel_rfl) (by kernel_rfl)
  refine callWith_builtin1 ?_ (by kernel_rfl) (by kernel_rfl)
  refine args_cons ?_ (by kernel_rfl)
  refine nm_local F₁.ns (v := .ref l) (by kernel_rfl) ?_ (by kernel_rfl) (by kernel_rfl)
  refine args_nil ?_
  refine iter_list (list_kp hl (k.trans F₁.keep)) fun li2 => ?_
  have F2 := F₁.push { cls := .type "list_iterator", data := .fields #[.ref l, .int 0 0] }
  have hIL : h₁.objs.size ≠ s.heap.objs.size := Nat.ne_of_gt F₁.ns.lt
  have hI : s.heap.get? h₁.objs.size = none := F₁.noneBack new_none
  refine wpAny_storeName_local (by kernel_rfl) F2.ns ?_ (by kernel_rfl)
  intro h3 N3 sb3
  have F3 := F2.set N3 sb3
  have li3 := li2.extBut sb3.extBut hIL
  refine wpAny_execs_cons ?_
  refine wpAny_If ?_
  refine wpAny_isTrue_Compare1 ?_
  refine nm_local F3.ns (v := v0) (by kernel_rfl) ?_ (by kernel_rfl) (by kernel_rfl)
  refine nm_glob (w := w) (X'.keeps F3.keep) (v := .ref 22) (by kernel_rfl) ?_ (by kernel_rfl) (by kernel_rfl) (by kernel_rfl)
  refine hi _ _ _ _ (k.trans F3.keep) ?_
  refine wpAny_truthy_bool ?_
  rw [if_neg (by decide)]
  refine wpAny_execs_cons ?_
  refine wpAny_Assign_Name ?_ (by kernel_rfl)
  refine nm_local F3.ns (v := v0) (by kernel_rfl) ?_ (by kernel_rfl) (by kernel_rfl)
  refine wpAny_storeName_local (by kernel_rfl) F3.ns ?_ (by kernel_rfl)
  intro h4 N4 sb4
  have F4 := F3.set N4 sb4
  refine wpAny_execs_nil ?_
  refine red_loop (n := n) (fa := fa) (I := h₁.objs.size) (i := 0) (v := v0) hf hfd hl Inv mono step ok1 k hI hIL (Nat.zero_le _) ?st ?iv ?_
  case st => exact ⟨⟨_, F4, by kernel_rfl, by kernel_rfl, by kernel_rfl⟩, li3.extBut sb4.extBut hIL, rfl, rfl, rfl⟩
  case iv => exact mono _ _ _ _ (k.trans F4.keep).q h0
  intro v s' nx iv
  exact hQ _ _ nx iv
theorem reduce_m {w : World} {n : Nat} {h : Heap} (X : (KK w).In h) {fa l : Addr} {fo : Obj} {ffd : FuncData} (hf : h.get? fa = some fo) (hfd : fo.data = .func ffd) {items : Array Value} (hl : h.IsList l items)
    (Inv : Nat → Value → Heap → Prop) (mono : ∀ i v h1 h2, Kq h1 h2 → Inv i v h1 → Inv i v h2)
    (step : ∀ i v x h', Kp h h' → items[i]? = some x → Inv i v h' → Cl w n h' (.ref fa) [v, x] (fun v' h'' => Inv (i + 1) v' h''))
    {v0 : Value} (hv0 : items[0]? = some v0) (h0 : Inv 1 v0 h) :
    Cl w (n + 1) h (.ref 30) [.ref fa, .ref l] (fun v h' => Inv items.size v h') := by
  intro A s Q E ok k hQ
  have X' := X.keeps k
  refine wpAny_call ?_
  have ht : (KK w).lookup 23 = some (ob w 23) := by kernel_rfl
  have hb : BindsTo s (fdAt w 30) ⟨[.ref fa, .ref l], []⟩ [("function", .ref fa), ("sequence", .ref l), ("initial", .ref 22)] :=
    BindsTo.of_defaults (T := 23) (o := ob w 23) (items := #[.ref 22]) (n := 0) (by kernel_rfl) (ob_at X' 23 ht) (by kernel_rfl) (bindK (fdAt w 30) [.ref fa, .ref l]).2 (by kernel_rfl)
  refine enterB (fdAt w 30) (bdAt w 30) [("function", .ref fa), ("sequence", .ref l), ("initial", .ref 22)] ok.room X' (by kernel_rfl) (by kernel_rfl) (by kernel_rfl) (by kernel_rfl) hb (by kernel_rfl) (by kernel_rfl) (by kernel_rfl) (by kernel_rfl) (by kernel_rfl) ?_
  intro h₁ N₁ k₁
  have F₁ : Fr s.heap s.heap.objs.size h₁ _ := ⟨N₁, k₁, Nat.le_refl _⟩
  have ok1 := ok.deeper (callEnv (fdAt w 30) s.heap.objs.size 30)
  have Xf := X'.keeps F₁.keep
  refine wpAny_execs_cons ?_
  refine wpAny_Assign_Name ?_ (by kernel_rfl)
  refine Call_ ?_
  refine nm_blt (w := w) Xf (v := .builtin "iter") (by kernel_rfl) (by kernel_rfl) ?_ (by kernel_rfl) (by kernel_rfl) (by kernel_rfl) (by kernel_rfl)
  refine callWith_builtin1 ?_ (by kernel_rfl) (by kernel_rfl)
  refine args_cons ?_ (by kernel_rfl)
  refine nm_local F₁.ns (v := .ref l) (by kernel_rfl) ?_ (by kernel_rfl) (by kernel_rfl)
  refine args_nil ?_
  refine iter_list (list_kp hl (k.trans F₁.keep)) fun li2 => ?_
  have F2 := F₁.push { cls := .type "list_iterator", data := .fields #[.ref l, .int 0 0] }
  have hIL : h₁.objs.size ≠ s.heap.objs.size := Nat.ne_of_gt F₁.ns.lt
  have hI : s.heap.get? h₁.objs.size = none := F₁.noneBack new_none
  refine wpAny_storeName_local (by kernel_rfl) F2.ns ?_ (by kernel_rfl)
  intro h3 N3 sb3
  have F3 := F2.set N3 sb3
  have li3 := li2.extBut sb3.extBut hIL
  refine wpAny_execs_cons ?_
  refine wpAny_If ?_
  refine wpAny_isTrue_Compare1 ?_
  refine nm_local F3.ns (v := .ref 22) (by kernel_rfl) ?_ (by kernel_rfl) (by kernel_rfl)
  refine nm_glob (w := w) (X'.keeps F3.keep) (v := .ref 22) (by kernel_rfl) ?_ (by kernel_rfl) (by kernel_rfl) (by kernel_rfl)
  refine wpAny_is_ref_self ?_
  refine wpAny_truthy_bool ?_
  rw [if_pos (by decide)]
  refine wpAny_execs_cons ?_
  refine wpAny_Try_except ?_
  refine wpAny_execs_cons ?_
  refine wpAny_Assign_Name ?_ (by kernel_rfl)
  refine Call_ ?_
  refine nm_blt (w := w) (X'.keeps F3.keep) (v := .builtin "next") (by kernel_rfl) (by kernel_rfl) ?_ (by kernel_rfl) (by kernel_rfl) (by kernel_rfl) (by kernel_rfl)
  refine callWith_builtin1 ?_ (by kernel_rfl) (by kernel_rfl)
  refine args_cons ?_ (by kernel_rfl)
  refine nm_local F3.ns (v := .ref h₁.objs.size) (by kernel_rfl) ?_ (by kernel_rfl) (by kernel_rfl)
  refine args_nil ?_
  refine next_list li3 (list_kp hl (k.trans F3.keep)) hv0 fun h4 li4 sb4 => ?_
  have F4 : Fr s.heap s.heap.objs.size h4 _ := ⟨F3.ns.sameBut sb4 (Ne.symm hIL), fun b o e => sb4.extBut b o (by rintro rfl; rw [hI] at e; cases e) (F3.keep b o e), F3.above⟩
  refine wpAny_storeName_local (by kernel_rfl) F4.ns ?_ (by kernel_rfl)
  intro h5 N5 sb5
  have F5 := F4.set N5 sb5
  refine wpAny_execs_nil ?_
  refine wpAny_execs_nil ?_
  refine wpAny_execs_nil ?_
  refine red_loop (n := n) (fa := fa) (I := h₁.objs.size) (i := 1) (v := v0) hf hfd hl Inv mono step ok1 k hI hIL (Array.getElem?_eq_some_iff.mp hv0).1 ?st ?iv ?_
  case st => exact ⟨⟨_, F5, by kernel_rfl, by kernel_rfl, by kernel_rfl⟩, li4.extBut sb5.extBut hIL, rfl, rfl, rfl⟩
  case iv => exact mono _ _ _ _ (k.trans F5.keep).q h0
  intro v s' nx iv
  exact hQ _ _ nx iv
end Mine

set_option maxRecDepth 100000
set_option maxHeartbeats 4000000
namespace Mine
open PySem.Calls

/-! ## the law's lambdas -/
def lawB : List Stmt := bodyOf (stAt PR.main.body 12)
def testOf : Stmt → Expr | .If t _ _ _ => t | _ => .Constant .none 0 ⟨0, 0, 0, 0⟩
def leftOf : Expr → Expr | .Compare l _ _ _ => l | e => e
def argOf (i : Nat) : Expr → Expr | .Call _ args _ _ => args.getD i (.Constant .none 0 ⟨0, 0, 0, 0⟩) | e => e
def lam (i : Nat) : Expr := argOf 0 (leftOf (testOf (stAt lawB i)))
def lamP : Expr → Arguments | .Lambda p _ _ _ => p | _ => default
def lamB : Expr → Expr | .Lambda _ b _ _ => b | e => e
def lamS : Expr → Scope | .Lambda _ _ sc _ => sc | _ => default
abbrev lamF (i : Nat) (c : Addr) (pm cd ct : Value) : FuncData := kla_fn "<lambda>" "law.<locals>.<lambda>" (lamP (lam i)) (lamB (lam i)) (lamS (lam i)) [("key", c)] pm cd ct

theorem callWith_K {w : World} {A : Around} {s : Shared} {E Q : Value → Shared → Prop} {env : Env} {pos : Pos} {e : Expr} {rest : List Expr}
    (h : wpAny (MM w) A (spliced (backTo pos (starEach (e :: rest) env))) (fun vs s₁ => CF s₁.heap ∧ wpAny (MM w) A (call (.ref 302) vs) Q E s₁) E s)
    (he : starEach (e :: rest) env = (false, eval e env) :: starEach rest env := by rfl)
    (hplain : (backTo pos (starEach rest env)).any (·.1) = false := by rfl) :
    wpAny (MM w) A (callWith pos (.ref 302) [] (backTo pos (starEach (e :: rest) env)) []) Q E s := by
  rw [he] at h ⊢
  have hst : ((backTo pos ((false, eval e env) :: starEach rest env)).any (fun x => x.fst) || ([] : List (Option Str × Sem Value)).any fun x => x.fst.isNone) = false := by
    show ((false || (backTo pos (starEach rest env)).any (·.1)) || false) = false
    rw [hplain]; rfl
  unfold callWith
  refine wpAny_bind (wpAny_holding (Calls.evalArgs_plain (wpAny_mono h (fun vs s₁ h₁ => ?_) fun _ _ x => x)))
  obtain ⟨⟨t1, t2, hC⟩, -⟩ := h₁.1
  refine wpAny_bind (wpAny_standAt ?_)
  show wpAny _ _ (keeperOf (.ref 302) >>= _) _ _ _
  unfold keeperOf specialOf
  refine wpAny_bind (wpAny_bind (wpAny_load hC (wpAny_bind (wpAny_bind (wpAny_typeOf (T := "type") ⟨_, hC, rfl⟩ (wpAny_of_eq tc_lookup (wpAny_pure ?_)))))))
  rw [if_pos (by rfl), hst]
  show wpAny _ _ (call (.ref 302) vs [] >>= fun r => do holding [r] point; pure r) _ _ _
  exact wpAny_bind (wpAny_mono h₁.2 (fun r s' hr => wpAny_bind (wpAny_holding (wpAny_point (wpAny_pure hr)))) fun _ _ x => x)

theorem Cl.use {w : World} {n : Nat} {h : Heap} {f : Value} {args : List Value} {P : Value → Heap → Prop} (c : Cl w n h f args P) {A : Around} {s : Shared} {Q E : Value → Shared → Prop} (ok : Okay n A) (k : Kp h s.heap) (hQ : ∀ v s', Nx s s' → P v s'.heap → Q v s') : wpAny (MM w) A (call f args) Q E s := c A s Q E ok k hQ

/-- key(x) written in the program, x a name that gives .ref a -/
theorem key_call {w : World} {A : Around} {s : Shared} {E Q : Value → Shared → Prop} {env : Env} {pos kp : Pos} {e : Expr} {a : Addr} (ok : Okay 3 A) (X : (KK w).In s.heap) (C : CF s.heap)
    (hkey : ∀ Q', Q' (.ref 302) s → wpAny (MM w) A (eval (.Name "key" kp) env) Q' E s) (hx : ∀ Q', (∀ k, Q' (.ref a) { s with toks := k }) → wpAny (MM w) A (eval e env) Q' E s)
    (hQ : ∀ x s', Nx s s' → Inst s'.heap x a → Q (.ref x) s')
    (he : eval (.Call (.Name "key" kp) [e] [] pos) env = (do callWith pos (← eval (.Name "key" kp) env) [] (backTo pos (starEach [e] env)) (backToKw pos (keywordEach [] env))) := by kernel_rfl)
    (he2 : starEach [e] env = (false, eval e env) :: starEach [] env := by kernel_rfl) (he3 : (backTo pos (starEach [] env)).any (·.1) = false := by kernel_rfl) :
    wpAny (MM w) A (eval (.Call (.Name "key" kp) [e] [] pos) env) Q E s := by
  refine Call_ ?_ he
  refine hkey _ ?_
  refine callWith_K ?_ he2 he3
  refine args_cons ?_ he2
  refine hx _ fun kt => ?_
  refine args_nil ?_
  refine ⟨C, ?_⟩
  refine mk_K (h := s.heap) X C a _ { s with toks := kt } _ _ ok (Kp.refl _) ?_
  rintro _ s' nx ⟨x, rfl, i⟩
  exact hQ x s' ⟨nx.kp, nx.gens, nx.dr, nx.os⟩ i

/-- key(x) op key(y) -/
theorem key_cmp {w : World} {A : Around} {s : Shared} {E Q : Value → Shared → Prop} {env : Env} {p1 p2 k1 k2 : Pos} {e1 e2 : Expr} {a b : Addr} {u v : Str} (op : CmpOp) (hop : op ∈ [CmpOp.Lt, .Gt, .Eq, .LtE, .GtE]) (ok : Okay 7 A) (X : (KK w).In s.heap) (C : CF s.heap)
    (ha : Title s.heap a u) (hb : Title s.heap b v)
    (hkey : ∀ kp s' Q', Kp s.heap s'.heap → Q' (.ref 302) s' → wpAny (MM w) A (eval (.Name "key" kp) env) Q' E s') (hx : ∀ s' Q', Kp s.heap s'.heap → Q' (.ref a) s' → wpAny (MM w) A (eval e1 env) Q' E s')
    (hy : ∀ s' Q', Kp s.heap s'.heap → Q' (.ref b) s' → wpAny (MM w) A (eval e2 env) Q' E s')
    (hQ : ∀ s', Nx s s' → Q (.bool (askOp op (rk (cp (capw u)) (cp (capw v))))) s')
    (he : eval (.Call (.Name "key" k1) [e1] [] p1) env = (do callWith p1 (← eval (.Name "key" k1) env) [] (backTo p1 (starEach [e1] env)) (backToKw p1 (keywordEach [] env))) := by kernel_rfl)
    (he2 : starEach [e1] env = (false, eval e1 env) :: starEach [] env := by kernel_rfl) (he3 : (backTo p1 (starEach [] env)).any (·.1) = false := by kernel_rfl)
    (he' : eval (.Call (.Name "key" k2) [e2] [] p2) env = (do callWith p2 (← eval (.Name "key" k2) env) [] (backTo p2 (starEach [e2] env)) (backToKw p2 (keywordEach [] env))) := by kernel_rfl)
    (he2' : starEach [e2] env = (false, eval e2 env) :: starEach [] env := by kernel_rfl) (he3' : (backTo p2 (starEach [] env)).any (·.1) = false := by kernel_rfl) :
    wpAny (MM w) A (eval (.Call (.Name "key" k1) [e1] [] p1) env) (fun x s₁ => wpAny (MM w) A (eval (.Call (.Name "key" k2) [e2] [] p2) env) (fun y s₂ => wpAny (MM w) A (compareOp op x y) Q E s₂) E s₁) E s := by
  refine key_call (a := a) (ok.le (by decide)) X C (hkey _ s · (Kp.refl _)) (fun Q' hq => hx s Q' (Kp.refl _) (hq s.toks)) ?_ he he2 he3
  intro x s1 nx1 i1
  refine key_call (a := b) (ok.le (by decide)) (X.keeps nx1.kp) (C.kp nx1.kp) (hkey _ s1 · nx1.kp) (fun Q' hq => hy s1 Q' nx1.kp (hq s1.toks)) ?_ he' he2' he3'
  intro y s2 nx2 i2
  refine cmp_c cap_c ((X.keeps nx1.kp).keeps nx2.kp) ((C.kp nx1.kp).kp nx2.kp) (i1.kp nx2.kp) i2 (ha.kp (nx1.kp.trans nx2.kp)) (hb.kp (nx1.kp.trans nx2.kp)) op hop _ _ _ _ ok (Kp.refl _) ?_
  rintro _ s3 nx3 rfl
  exact hQ s3 (nx1.trans (nx2.trans nx3))

/-- entering a lambda without a cell of its own -/
theorem enterL {w : World} {A : Around} {s : Shared} {R : Result → Shared → Prop} {a : Addr} {o : Obj} {args : Args} (fd : FuncData) (body : Expr) (binds : List (Str × Value)) (hroom : A.depth < recursionLimit) (X : (KK w).In s.heap)
    (ho : s.heap.get? a = some o) (e2 : o.data = .func fd) (e3 : s.heap.CodeRec fd.code fd.qualname) (e4 : fd.body = .expr body)
    (hbind : bindArgs fd args = pure binds) (hcell : fd.scope.names.all (fun x => x.2 != .cell) = true) (hloc : binds.all (fun x => fd.scope.names.lookup x.1 == some .local) = true)
    (hco : fd.scope.isCoroutine = false) (hgen : fd.scope.isGenerator = false) (hk : fd.scope.kind = .function)
    (h : ∀ h₀ tk, h₀.Ns s.heap.objs.size (fun x => binds.reverse.lookup x) → Kp s.heap h₀ →
      wpAny (MM w) (A.deeper (callEnv fd s.heap.objs.size a)) (eval body (callEnv fd s.heap.objs.size a)) (fun v s' => R (.ok (.ret v)) s')
        (fun e s' => wpAny (MM w) (A.deeper (callEnv fd s.heap.objs.size a)) (leaving (callEnv fd s.heap.objs.size a) e) (fun _ s'' => R (.error e) s'') (fun e' s'' => R (.error e') s'') s')
        { s with heap := h₀, toks := tk }) : codeAny (MM w) A (.call (.ref a) args) R s := by
  refine kla_callFunE hroom ho e2 hco hgen e4 e3 (wpAny_of_eq hbind ?_)
  refine wpAny_newFunctionEnv (fun x hx => by have := List.all_eq_true.mp hcell x hx; intro e; rw [e] at this; exact absurd this (by decide)) (fun x hx => by have := List.all_eq_true.mp hloc x hx; simpa using this) (fun h₀ N sb => ⟨(noLimit X).fresh _ sb, kla_codeExpr (h h₀ _ N ?_)⟩) hk
  exact fun b o e => sb.extBut b o (Nat.ne_of_lt (Heap.lt_size e)) (Heap.get?_push_of_some _ e)

theorem lam2_c {w : World} {h : Heap} (X : (KK w).In h) (C : CF h) {fa c : Addr} {pm ct : Value} {c' : Addr} (hf : h.get? fa = some ⟨.type "function", none, .func (lamF 12 c pm (.ref c') ct), #[]⟩) (hcd : h.CodeRec (.ref c') "law.<locals>.<lambda>") (hc : h.IsCell c (some (.ref 302)))
    {a b : Addr} {u v : Str} (ha : Title h a u) (hb : Title h b v) :
    Cl w 8 h (.ref fa) [.ref a, .ref b] (fun r _ => r = .ref (if rk (cp (capw v)) (cp (capw u)) < 0 then b else a)) := by
  intro A s Q E ok k hQ
  have X' := X.keeps k
  refine wpAny_call ?_
  refine enterL (lamF 12 c pm (.ref c') ct) (lamB (lam 12)) [("one", .ref a), ("two", .ref b)] ok.room X' (k _ _ hf) rfl (by obtain ⟨p, o, vs, t, e1, e2, e3⟩ := hcd; exact ⟨p, o, vs, t, e1, k _ _ e2, e3⟩) (by kernel_rfl) (by kernel_rfl) (by kernel_rfl) (by kernel_rfl) (by kernel_rfl) (by kernel_rfl) (by kernel_rfl) ?_
  intro h₁ tk N₁ k₁
  have F₁ : Fr s.heap s.heap.objs.size h₁ _ := ⟨N₁, k₁, Nat.le_refl _⟩
  have ok1 := ok.deeper (callEnv (lamF 12 c pm (.ref c') ct) s.heap.objs.size fa)
  have hcell : ∀ s' : Shared, Kp h₁ s'.heap → s'.heap.IsCell c (some (.ref 302)) := fun s' k' => hc.keeps (k.trans (k₁.trans k'))
  refine IfExp_ ?_
  refine wpAny_isTrue_Compare1 ?_
  refine key_cmp (a := b) (b := a) (u := v) (v := u) .Lt (by simp) ok1 (X'.keeps k₁) (C.kp (k.trans k₁)) (hb.kp (k.trans k₁)) (ha.kp (k.trans k₁)) ?_ ?_ ?_ ?_
  · intro kp s' Q' k' hq
    exact wpAny_Name (wpAny_loadName_free (by kernel_rfl) (by kernel_rfl) (by kernel_rfl) (hcell s' k') hq)
  · intro s' Q' k' hq
    exact nm_local (F₁.keeps k').ns (v := .ref b) (by kernel_rfl) hq (by kernel_rfl) (by kernel_rfl)
  · intro s' Q' k' hq
    exact nm_local (F₁.keeps k').ns (v := .ref a) (by kernel_rfl) hq (by kernel_rfl) (by kernel_rfl)
  intro s2 nx2
  refine wpAny_truthy_bool ?_
  by_cases hr : rk (cp (capw v)) (cp (capw u)) < 0
  · rw [if_pos (by simpa [askOp] using hr)]
    refine nm_local (F₁.keeps nx2.kp).ns (v := .ref b) (by kernel_rfl) ?_ (by kernel_rfl) (by kernel_rfl)
    exact hQ _ _ ⟨k₁.trans nx2.kp, nx2.gens, nx2.dr, nx2.os⟩ (by rw [if_pos hr])
  · rw [if_neg (by simpa [askOp] using hr)]
    refine nm_local (F₁.keeps nx2.kp).ns (v := .ref a) (by kernel_rfl) ?_ (by kernel_rfl) (by kernel_rfl)
    exact hQ _ _ ⟨k₁.trans nx2.kp, nx2.gens, nx2.dr, nx2.os⟩ (by rw [if_neg hr])
end Mine

set_option maxRecDepth 100000
set_option maxHeartbeats 4000000
namespace Mine
open PySem.Calls

/-! ## a lambda whose second parameter is a cell -/
abbrev lamE (fd : FuncData) (n2 : Str) (L a : Addr) : Env := newEnv fd.scope L fd.globals ((n2, L + 1) :: fd.closure) (fd.qualname ++ ".<locals>.") (some a) fd.code none fd.builtins
theorem newEnv_lam {M : Model} {A : Around} {E : Value → Shared → Prop} {s : Shared} {scope : Scope} {globals : Addr} {cl : List (Str × Addr)} {n1 n2 : Str} {v1 v2 : Value} {qual : Str} {func : Option Addr} {code : Value} {bi : Addr} {Q : Env → Shared → Prop}
    (hk : scope.kind = .function) (h1 : scope.names.lookup n1 = some .local) (h2 : scope.names.lookup n2 = some .cell)
    (hc : ∀ n, cellsFrom n scope.names cl = (n2, n) :: cl) (hp : ∀ h, pushCells h scope.names = h.push { cls := .type "cell", data := .cell none })
    (hQ : ∀ h' tk, h'.Ns s.heap.objs.size (fun y => if y = n1 then some v1 else none) → h'.IsCell (s.heap.objs.size + 1) (some v2) → Kp s.heap h' →
      Q (newEnv scope s.heap.objs.size globals ((n2, s.heap.objs.size + 1) :: cl) qual func code none bi) { s with heap := h', toks := tk }) :
    wpAny M A (newFunctionEnv scope globals cl [(n1, v1), (n2, v2)] qual func code none bi) Q E s := by
  simp only [newFunctionEnv, Option.isSome_none, Bool.false_eq_true, if_false]
  refine wpAny_bind (wpAny_alloc ?_)
  refine wpAny_bind (wpAny_layCells _ (fun name kind cells => by cases hkc : kind == NameKind.cell <;> simp [hkc]) _ _ _ _ ?_)
  rw [show ({ s with heap := s.heap.push { cls := .type "frame", data := .dict #[] } } : Shared).heap.objs.size = s.heap.objs.size + 1 from Heap.size_push .., hc, hp]
  simp only [List.forIn_cons, List.forIn_nil]
  have N0 : ((s.heap.push { cls := .type "frame", data := .dict #[] }).push { cls := .type "cell", data := .cell none }).Ns s.heap.objs.size (fun _ => none) := (Heap.Ns.new s.heap (.type "frame")).push _
  have C0 : ((s.heap.push { cls := .type "frame", data := .dict #[] }).push { cls := .type "cell", data := .cell none }).IsCell (s.heap.objs.size + 1) none := by
    have := Heap.get?_push_size (s.heap.push { cls := .type "frame", data := .dict #[] }) (o := { cls := .type "cell", data := .cell none }) rfl
    rw [Heap.size_push] at this
    exact ⟨_, this, rfl⟩
  refine wpAny_bind (wpAny_bind (wpAny_bind (wpAny_storeName_local (env := newEnv scope s.heap.objs.size globals ((n2, s.heap.objs.size + 1) :: cl) qual func code none bi) h1 N0 (fun h2' N2 sb2 => ?_) (by show (scope.kind == .class || (scope.kind == .module && _)) = false; rw [hk]; rfl))))
  refine wpAny_pure (wpAny_bind (wpAny_bind (wpAny_storeName_cell (env := newEnv scope s.heap.objs.size globals ((n2, s.heap.objs.size + 1) :: cl) qual func code none bi) (c := s.heap.objs.size + 1) hk h2 (by show List.lookup n2 ((n2, s.heap.objs.size + 1) :: cl) = _; simp) (C0.sameBut sb2 (Nat.succ_ne_self _)) fun h3 C3 sb3 => ?_)))
  refine wpAny_pure (wpAny_pure (wpAny_pure (hQ h3 _ (N2.sameBut sb3 (Nat.succ_ne_self _).symm) C3 fun b o e => ?_)))
  have hb := Heap.lt_size e
  exact sb3.extBut b o (Nat.ne_of_lt (Nat.lt_succ_of_lt hb)) (sb2.extBut b o (Nat.ne_of_lt hb) (Heap.get?_push_of_some _ (Heap.get?_push_of_some _ e)))

theorem enterLC {w : World} {A : Around} {s : Shared} {R : Result → Shared → Prop} {a : Addr} {o : Obj} {args : Args} (fd : FuncData) (body : Expr) (n1 n2 : Str) (v1 v2 : Value) (hroom : A.depth < recursionLimit) (X : (KK w).In s.heap)
    (ho : s.heap.get? a = some o) (e2 : o.data = .func fd) (e3 : s.heap.CodeRec fd.code fd.qualname) (e4 : fd.body = .expr body)
    (hbind : bindArgs fd args = pure [(n1, v1), (n2, v2)]) (h1 : fd.scope.names.lookup n1 = some .local) (h2 : fd.scope.names.lookup n2 = some .cell)
    (hc : ∀ n, cellsFrom n fd.scope.names fd.closure = (n2, n) :: fd.closure) (hp : ∀ h, pushCells h fd.scope.names = h.push { cls := .type "cell", data := .cell none })
    (hco : fd.scope.isCoroutine = false) (hgen : fd.scope.isGenerator = false) (hk : fd.scope.kind = .function)
    (h : ∀ h₀ tk, h₀.Ns s.heap.objs.size (fun y => if y = n1 then some v1 else none) → h₀.IsCell (s.heap.objs.size + 1) (some v2) → Kp s.heap h₀ →
      wpAny (MM w) (A.deeper (lamE fd n2 s.heap.objs.size a)) (eval body (lamE fd n2 s.heap.objs.size a)) (fun v s' => R (.ok (.ret v)) s')
        (fun e s' => wpAny (MM w) (A.deeper (lamE fd n2 s.heap.objs.size a)) (leaving (lamE fd n2 s.heap.objs.size a) e) (fun _ s'' => R (.error e) s'') (fun e' s'' => R (.error e') s'') s')
        { s with heap := h₀, toks := tk }) : codeAny (MM w) A (.call (.ref a) args) R s := by
  refine kla_callFunE hroom ho e2 hco hgen e4 e3 (wpAny_of_eq hbind ?_)
  exact newEnv_lam hk h1 h2 hc hp fun h' tk N C k => ⟨noLimit (X.keeps k), kla_codeExpr (h h' tk N C k)⟩

/-! ## the filtering comprehension -/
theorem paired_eq : ∀ {l₁ l₂ : List Value}, Paired (fun v y => y = v) l₁ l₂ → l₂ = l₁
  | _, _, .nil => rfl
  | _, _, .cons h t => by rw [h, paired_eq t]
theorem vs_items {vs : List Value} {items : Array Value} (hl : vs.length = items.size) (h : ∀ (j : Nat) (v : Value), vs[j]? = some v → items[j]? = some v) : vs = items.toList := by
  refine List.ext_getElem? fun i => ?_
  by_cases hi : i < vs.length
  · have := h i vs[i] (List.getElem?_eq_getElem hi)
    rw [List.getElem?_eq_getElem hi, Array.getElem?_toList, this]
  · have e1 : vs[i]? = none := by simp; omega
    have e2 : items.toList[i]? = none := by simp; omega
    rw [e1, e2]
theorem keeps_nx {s s' : Shared} (h : Keeps s s') : Nx s s' := by obtain ⟨h', tk, rfl, k⟩ := h; exact ⟨k, rfl, rfl, rfl⟩
theorem nx_keeps {s s' : Shared} (h : Nx s s') : Keeps s s' := by
  obtain ⟨hh, g, d, t, o⟩ := s'
  obtain ⟨k, e1, e2, e3⟩ := h
  simp only at e1 e2 e3
  subst e1 e2 e3
  exact ⟨hh, t, rfl, k⟩

theorem comp_flt {w : World} {A : Around} {env : Env} {scope : Scope} {cl : List (Str × Addr)} {t iter : Expr} {px ep pos : Pos} {E Q : Value → Shared → Prop} {s : Shared} {D : Addr} {items : Array Value} (hA : A.handled = none) (p : Value → Bool)
    (hsz : items.size ≤ sizeLine) (hclos : closureFor scope env = pure cl) (hcell : scope.names.all (fun x => x.2 != .cell) = true) (hkind : scope.kind = .function) (hnames : scope.names.all (fun x => x.2 != .local || scope.names.lookup x.1 == some .local) = true) (hx : scope.names.lookup (Str.ofString "one") = some .local)
    (hone : ∀ C, (compEnvC scope cl C env).kindOf "one" = some .local)
    (hiter : ∀ Q', Q' (.ref D) s → wpAny (MM w) A (eval iter env) Q' E s) (hD : s.heap.IsList D items)
    (htest : ∀ C v s₃ m₃ E', s.heap.get? C = none → v ∈ items → s₃.heap.Ns C m₃ → m₃ "one" = some v → Kp s.heap s₃.heap →
      wpAny (MM w) A (isTrue t (compEnvC scope cl C env) (eval t (compEnvC scope cl C env))) (fun ok s₄ => ok = p v ∧ Nx s₃ s₄) E' s₃)
    (hQ : ∀ D' h' tk ys, s.heap.get? D' = none → h'.PlainList D' ys → ys.toList = items.toList.filter p → Kp s.heap h' → Q (.ref D') { s with heap := h', toks := tk })
    (hs : ∀ x, foldedSetIterable iter env x = pure x := by intro _; kernel_rfl) :
    wpAny (MM w) A (eval (.ListComp (.Name "one" ep) [⟨.Name "one" px, iter, [t], 0⟩] scope pos) env) Q E s := by
  have hc : ∀ y ∈ scope.names, y.2 ≠ .cell := fun x hx => by have := List.all_eq_true.mp hcell x hx; intro e; rw [e] at this; exact absurd this (by decide)
  have hn : ∀ y ∈ scope.names, y.2 = .local → scope.names.lookup y.1 = some .local := fun x hx e => by
    have := List.all_eq_true.mp hnames x hx
    rw [e] at this
    simpa using this
  refine wpAny_ListComp_free p (fun v y => y = v) hclos hc hkind hn hx ?_ hs
  refine hiter _ ?_
  refine wpAny_pyIter_list hD ?_
  have hlt : ∀ b o, s.heap.get? b = some o → b ≠ s.heap.objs.size := fun b o e => Nat.ne_of_lt (Heap.lt_size e)
  have hne : D ≠ s.heap.objs.size := by obtain ⟨o, e, _⟩ := hD; exact hlt _ _ e
  have back : ∀ C, (s.heap.push { cls := .type "list_iterator", data := .fields #[.ref D, .int 0 0] }).get? C = none → s.heap.get? C = none := fun C e => by
    cases e' : s.heap.get? C with
    | none => rfl
    | some o => rw [Heap.get?_push_of_some _ e'] at e; cases e
  refine ⟨_, [s.heap.objs.size, D], [s.heap.objs.size], items.size, _, _, rfl, Walks.list hA s.heap.objs.size D hne items, hsz, ⟨⟨_, Heap.get?_push_size _ rfl, rfl, rfl⟩, hD.push _⟩, ?_, ⟨?_, ?_⟩, ?_⟩
  · intro b hb
    simp only [List.mem_cons, List.not_mem_nil, or_false] at hb
    have hD' : D < s.heap.objs.size := by obtain ⟨o, e, _⟩ := hD; exact Heap.lt_size e
    show b < (s.heap.push _).objs.size
    rw [Heap.size_push]
    rcases hb with rfl | rfl
    · exact Nat.lt_succ_self _
    · exact Nat.lt_succ_of_lt hD'
  · intro C i v s₃ m₃ E' hC hP N hm k _
    refine wpAny_tests_one ?_
    refine wpAny_mono (htest C v s₃ m₃ E' ?_ (Array.mem_of_getElem? hP) N hm fun b o e => k b o (by simpa using hlt b o e) (Heap.get?_push_of_some _ e)) (fun ok s₄ h => ⟨h.1, nx_keeps h.2⟩) fun _ _ e => e
    cases e' : s.heap.get? C with
    | none => rfl
    | some o => exact absurd (Heap.lt_size e') (Nat.not_lt.mpr (Nat.le_trans (Nat.le_succ _) (by rw [Heap.size_push] at hC; exact hC)))
  · intro C i v s₃ m₃ E' hC hP hp N hm k _
    exact nm_local N hm ⟨rfl, nx_keeps (Nx.refl _)⟩ hkind (hone C)
  · intro D' h' tk ys vs hD' _ pl hlen hP hF k
    have e := vs_items hlen hP
    subst e
    exact hQ D' h' tk ys (back _ hD') pl (paired_eq hF) fun b o e => k b o (by simpa using hlt b o e) (Heap.get?_push_of_some _ e)
end Mine

set_option maxRecDepth 100000
set_option maxHeartbeats 4000000
namespace Mine
open PySem.Calls
def rkA (tt : Addr → Str) (d x : Addr) : Int := rk (cp (capw (tt d))) (cp (capw (tt x)))
def onRef (P : Addr → Bool) : Value → Bool | .ref d => P d | _ => false
abbrev clL (L c : Addr) : List (Str × Addr) := [("thing", L + 1), ("key", c)]
theorem flt_refs (P : Addr → Bool) (ds : List Addr) : (ds.map Value.ref).filter (onRef P) = (ds.filter P).map Value.ref := by rw [List.filter_map]; rfl
theorem arr_of {ys : Array Value} {l : List Value} (h : ys.toList = l) : ys = l.toArray := by rw [← h]

section
variable {w : World} {A : Around} {s : Shared} {E Q : Value → Shared → Prop}
theorem add_pl {l b : Addr} {xs ys : List Addr} (h1 : s.heap.PlainList l (xs.map Value.ref).toArray) (h2 : s.heap.PlainList b (ys.map Value.ref).toArray) (hz : xs.length + ys.length ≤ 10000)
    (h : ∀ h', Kp s.heap h' → h'.PlainList s.heap.objs.size ((xs ++ ys).map Value.ref).toArray → Q (.ref s.heap.objs.size) { s with heap := h' }) : wpAny (MM w) A (binaryOp .Add (.ref l) (.ref b)) Q E s := by
  obtain ⟨n, e1⟩ := h1
  obtain ⟨n', e2⟩ := h2
  refine P.add_list (n := n) (n2 := n') e1 e2 (h _ (fun b o e => Heap.get?_push_of_some _ e) ⟨0, ?_⟩) (by simp only [List.size_toArray, List.length_map]; show _ ≤ 16777216; omega)
  rw [List.map_append, ← List.append_toArray]
  exact Heap.get?_push_size _ rfl
end

/-- one of the two comprehensions of a lambda -/
theorem lam_comp {w : World} {A : Around} {L fa c : Addr} {i : Nat} {pm ct cd : Value} {scope : Scope} {t : Expr} {px ep ip pos : Pos} {E Q : Value → Shared → Prop} {s : Shared} {D : Addr} {ds : List Addr} (P : Addr → Bool)
    (hA : A.handled = none) (hlen : ds.length ≤ 1000) (N : s.heap.Ns L (fun y => if y = Str.ofString "done" then some (.ref D) else none))
    (hD : s.heap.PlainList D (ds.map Value.ref).toArray)
    (hclos : closureFor scope (lamE (lamF i c pm cd ct) "thing" L fa) = pure (clL L c))
    (hdone : (lamE (lamF i c pm cd ct) "thing" L fa).kindOf "done" = some .local) (hki : (lamS (lam i)).kind = .function)
    (hcell : scope.names.all (fun x => x.2 != .cell) = true) (hkind : scope.kind = .function) (hnames : scope.names.all (fun x => x.2 != .local || scope.names.lookup x.1 == some .local) = true) (hx : scope.names.lookup (Str.ofString "one") = some .local)
    (hone : ∀ C, (compEnvC scope (clL L c) C (lamE (lamF i c pm cd ct) "thing" L fa)).kindOf "one" = some .local)
    (htest : ∀ C d s₃ m₃ E', d ∈ ds → s₃.heap.Ns C m₃ → m₃ "one" = some (.ref d) → Kp s.heap s₃.heap →
      wpAny (MM w) A (isTrue t (compEnvC scope (clL L c) C (lamE (lamF i c pm cd ct) "thing" L fa)) (eval t (compEnvC scope (clL L c) C (lamE (lamF i c pm cd ct) "thing" L fa)))) (fun ok s₄ => ok = P d ∧ Nx s₃ s₄) E' s₃)
    (hQ : ∀ D' s', Nx s s' → s'.heap.PlainList D' ((ds.filter P).map Value.ref).toArray → Q (.ref D') s')
    (hs : ∀ x, foldedSetIterable (.Name "done" ip) (lamE (lamF i c pm cd ct) "thing" L fa) x = pure x := by intro _; kernel_rfl) :
    wpAny (MM w) A (eval (.ListComp (.Name "one" ep) [⟨.Name "one" px, .Name "done" ip, [t], 0⟩] scope pos) (lamE (lamF i c pm cd ct) "thing" L fa)) Q E s := by
  refine comp_flt (D := D) (items := (ds.map Value.ref).toArray) hA (onRef P) (by simp only [List.size_toArray, List.length_map]; show _ ≤ 16777216; omega) hclos hcell hkind hnames hx hone ?_ hD.isList ?_ ?_ hs
  · intro Q' hq
    exact nm_local N (v := .ref D) (by rw [if_pos (by decide)]) hq hki hdone
  · intro C v s₃ m₃ E' _ hv N3 hm k
    simp only [List.mem_toArray, List.mem_map] at hv
    obtain ⟨d, hd, rfl⟩ := hv
    exact htest C d s₃ m₃ E' hd N3 hm k
  · intro D' h' tk ys _ pl e k
    refine hQ D' _ ⟨k, rfl, rfl, rfl⟩ ?_
    rw [arr_of e] at pl
    rw [← flt_refs]
    exact pl

theorem lam_tst {w : World} {A : Around} {L fa c : Addr} {i : Nat} {pm ct cd : Value} {sc : Scope} {p1 p2 k1 k2 n1 n2 : Pos} {tt : Addr → Str} {C' d x : Addr} {s₃ : Shared} {m₃ : Str → Option Value} {E' R : Value → Shared → Prop}
    (op : CmpOp) (hop : op ∈ [CmpOp.Lt, .Gt, .Eq, .LtE, .GtE]) (ok : Okay 7 A) (X : (KK w).In s₃.heap) (C : CF s₃.heap) (hd : Title s₃.heap d (tt d)) (hx : Title s₃.heap x (tt x))
    (N3 : s₃.heap.Ns C' m₃) (hm : m₃ "one" = some (.ref d)) (Cx : s₃.heap.IsCell (L + 1) (some (.ref x))) (hc : s₃.heap.IsCell c (some (.ref 302))) (hsk : sc.kind = .function)
    (ho : (compEnvC sc (clL L c) C' (lamE (lamF i c pm cd ct) "thing" L fa)).kindOf "one" = some .local) (ht : (compEnvC sc (clL L c) C' (lamE (lamF i c pm cd ct) "thing" L fa)).kindOf "thing" = some .cell)
    (hk' : (compEnvC sc (clL L c) C' (lamE (lamF i c pm cd ct) "thing" L fa)).kindOf "key" = some .free) (hR : ∀ s₄, Nx s₃ s₄ → R (.bool (askOp op (rkA tt d x))) s₄) :
    wpAny (MM w) A (eval (.Call (.Name "key" k1) [.Name "one" n1] [] p1) (compEnvC sc (clL L c) C' (lamE (lamF i c pm cd ct) "thing" L fa)))
      (fun x s₁ => wpAny (MM w) A (eval (.Call (.Name "key" k2) [.Name "thing" n2] [] p2) (compEnvC sc (clL L c) C' (lamE (lamF i c pm cd ct) "thing" L fa))) (fun y s₂ => wpAny (MM w) A (compareOp op x y) R E' s₂) E' s₁) E' s₃ := by
  refine key_cmp (a := d) (b := x) op hop ok X C hd hx ?_ ?_ ?_ hR
  · intro kp s' Q' k' hq
    exact wpAny_Name (wpAny_loadName_free hsk hk' (by rfl) (hc.keeps k') hq)
  · intro s' Q' k' hq
    exact nm_local (N3.keeps k') hm hq hsk ho
  · intro s' Q' k' hq
    exact wpAny_Name (wpAny_loadName_cell hsk ht (by rfl) (Cx.keeps k') hq)

theorem lam1_c {w : World} {h : Heap} (X : (KK w).In h) (C : CF h) {fa c : Addr} {pm ct : Value} {c' : Addr} (hf : h.get? fa = some ⟨.type "function", none, .func (lamF 10 c pm (.ref c') ct), #[]⟩) (hcd : h.CodeRec (.ref c') "law.<locals>.<lambda>") (hc : h.IsCell c (some (.ref 302)))
    {tt : Addr → Str} {D x : Addr} {ds : List Addr} (hD : h.PlainList D (ds.map Value.ref).toArray) (hx : Title h x (tt x)) (hd : ∀ d ∈ ds, Title h d (tt d)) (hlen : ds.length ≤ 1000) :
    Cl w 8 h (.ref fa) [.ref D, .ref x] (fun r h' => ∃ D', r = .ref D' ∧ h'.PlainList D' ((ds.filter (fun d => askOp .GtE (rkA tt d x)) ++ [x] ++ ds.filter (fun d => !askOp .GtE (rkA tt d x))).map Value.ref).toArray) := by
  intro A s Q E ok k hQ
  have X' := X.keeps k
  refine wpAny_call ?_
  refine enterLC (lamF 10 c pm (.ref c') ct) (lamB (lam 10)) "done" "thing" (.ref D) (.ref x) ok.room X' (k _ _ hf) rfl (by obtain ⟨p, o, vs, t, e1, e2, e3⟩ := hcd; exact ⟨p, o, vs, t, e1, k _ _ e2, e3⟩) (by kernel_rfl) (by kernel_rfl) (by kernel_rfl) (by kernel_rfl) (by intro _; kernel_rfl) (by intro _; kernel_rfl) (by kernel_rfl) (by kernel_rfl) (by kernel_rfl) ?_
  intro h₁ tk N₁ C₁ k₁
  have ok1 := ok.deeper (lamE (lamF 10 c pm (.ref c') ct) "thing" s.heap.objs.size fa)
  refine wpAny_BinOp ?_
  refine wpAny_BinOp ?_
  refine lam_comp (D := D) (ds := ds) (fun d => askOp .GtE (rkA tt d x)) ok1.hd hlen N₁ (pl_kp hD (k.trans k₁)) (by kernel_rfl) (by kernel_rfl) (by kernel_rfl) (by kernel_rfl) (by kernel_rfl) (by kernel_rfl) (by kernel_rfl) (by intro _; kernel_rfl) ?_ ?_
  · intro C' d s₃ m₃ E' hdm N3 hm k3
    refine wpAny_isTrue_Compare1 ?_
    refine lam_tst .GtE (by simp) ok1 (X'.keeps (k₁.trans k3)) (C.kp (k.trans (k₁.trans k3))) ((hd d hdm).kp (k.trans (k₁.trans k3))) (hx.kp (k.trans (k₁.trans k3))) N3 hm (C₁.keeps k3) (hc.keeps (k.trans (k₁.trans k3))) (by kernel_rfl) (by kernel_rfl) (by kernel_rfl) (by kernel_rfl) fun s₄ nx => wpAny_truthy_bool ⟨rfl, nx⟩
  intro D1 s2 nx2 pl2
  refine wpAny_List ?_
  refine args_cons ?_ (by kernel_rfl)
  refine wpAny_Name (wpAny_loadName_cell (by kernel_rfl) (by kernel_rfl) (by rfl) (C₁.keeps nx2.kp) ?_)
  refine args_nil ?_
  refine ⟨(by show 1 ≤ 16777216; decide), ?_⟩
  have kp3 : Kp s2.heap (s2.heap.push { cls := .type "list", data := .seq [Value.ref x].toArray }) := fun b o e => Heap.get?_push_of_some _ e
  have pl3 : (s2.heap.push { cls := .type "list", data := .seq [Value.ref x].toArray }).PlainList s2.heap.objs.size (([x]).map Value.ref).toArray := ⟨0, Heap.get?_push_size _ rfl⟩
  have hl1 : (ds.filter (fun d => askOp .GtE (rkA tt d x))).length ≤ ds.length := List.length_filter_le _ _
  have hl2 : (ds.filter (fun d => !askOp .GtE (rkA tt d x))).length ≤ ds.length := List.length_filter_le _ _
  refine add_pl (pl_kp pl2 kp3) pl3 (by simp only [List.length_singleton]; omega) fun h4 k4 pl4 => ?_
  have kk4 : Kp h₁ h4 := nx2.kp.trans (kp3.trans k4)
  refine lam_comp (D := D) (ds := ds) (fun d => !askOp .GtE (rkA tt d x)) ok1.hd hlen (N₁.keeps kk4) (pl_kp hD (k.trans (k₁.trans kk4))) (by kernel_rfl) (by kernel_rfl) (by kernel_rfl) (by kernel_rfl) (by kernel_rfl) (by kernel_rfl) (by kernel_rfl) (by intro _; kernel_rfl) ?_ ?_
  · intro C' d s₃ m₃ E' hdm N3 hm k3
    refine wpAny_isTrue_Not ?_
    refine wpAny_isTrue_Compare1 ?_
    have k5 := kk4.trans k3
    refine lam_tst .GtE (by simp) ok1 (X'.keeps (k₁.trans k5)) (C.kp (k.trans (k₁.trans k5))) ((hd d hdm).kp (k.trans (k₁.trans k5))) (hx.kp (k.trans (k₁.trans k5))) N3 hm (C₁.keeps k5) (hc.keeps (k.trans (k₁.trans k5))) (by kernel_rfl) (by kernel_rfl) (by kernel_rfl) (by kernel_rfl) fun s₄ nx => wpAny_truthy_bool ⟨rfl, nx⟩
  intro D5 s5 nx5 pl5
  refine add_pl (pl_kp pl4 nx5.kp) pl5 (by simp only [List.length_append, List.length_singleton]; omega) fun h6 k6 pl6 => ?_
  exact hQ _ _ ⟨k₁.trans (kk4.trans (nx5.kp.trans k6)), nx5.gens.trans nx2.gens, nx5.dr.trans nx2.dr, nx5.os.trans nx2.os⟩ ⟨_, rfl, pl6⟩
theorem lam3_c {w : World} {h : Heap} (X : (KK w).In h) (C : CF h) {fa c : Addr} {pm ct : Value} {c' : Addr} (hf : h.get? fa = some ⟨.type "function", none, .func (lamF 13 c pm (.ref c') ct), #[]⟩) (hcd : h.CodeRec (.ref c') "law.<locals>.<lambda>") (hc : h.IsCell c (some (.ref 302)))
    {tt : Addr → Str} {D x : Addr} {ds : List Addr} (hD : h.PlainList D (ds.map Value.ref).toArray) (hx : Title h x (tt x)) (hd : ∀ d ∈ ds, Title h d (tt d)) (hlen : ds.length ≤ 1000) :
    Cl w 8 h (.ref fa) [.ref D, .ref x] (fun r h' => ∃ D', r = .ref D' ∧ h'.PlainList D' ((ds.filter (fun d => !askOp .Gt (rkA tt d x)) ++ [x] ++ ds.filter (fun d => askOp .Gt (rkA tt d x))).map Value.ref).toArray) := by
  intro A s Q E ok k hQ
  have X' := X.keeps k
  refine wpAny_call ?_
  refine enterLC (lamF 13 c pm (.ref c') ct) (lamB (lam 13)) "done" "thing" (.ref D) (.ref x) ok.room X' (k _ _ hf) rfl (by obtain ⟨p, o, vs, t, e1, e2, e3⟩ := hcd; exact ⟨p, o, vs, t, e1, k _ _ e2, e3⟩) (by kernel_rfl) (by kernel_rfl) (by kernel_rfl) (by kernel_rfl) (by intro _; kernel_rfl) (by intro _; kernel_rfl) (by kernel_rfl) (by kernel_rfl) (by kernel_rfl) ?_
  intro h₁ tk N₁ C₁ k₁
  have ok1 := ok.deeper (lamE (lamF 13 c pm (.ref c') ct) "thing" s.heap.objs.size fa)
  refine IfExp_ ?_
  refine wpAny_isTrue_Compare1 ?_
  refine nm_local N₁ (v := .ref D) (by kernel_rfl) ?_ (by kernel_rfl) (by kernel_rfl)
  refine wpAny_Constant_none ?_
  refine is_none ?_
  refine wpAny_truthy_bool ?_
  rw [if_neg (show ¬((Value.ref D == Value.none) = true) from Bool.false_ne_true)]
  refine wpAny_BinOp ?_
  refine wpAny_BinOp ?_
  refine lam_comp (D := D) (ds := ds) (fun d => !askOp .Gt (rkA tt d x)) ok1.hd hlen N₁ (pl_kp hD (k.trans k₁)) (by kernel_rfl) (by kernel_rfl) (by kernel_rfl) (by kernel_rfl) (by kernel_rfl) (by kernel_rfl) (by kernel_rfl) (by intro _; kernel_rfl) ?_ ?_
  · intro C' d s₃ m₃ E' hdm N3 hm k3
    refine wpAny_isTrue_Not ?_
    refine wpAny_isTrue_Compare1 ?_
    refine lam_tst .Gt (by simp) ok1 (X'.keeps (k₁.trans k3)) (C.kp (k.trans (k₁.trans k3))) ((hd d hdm).kp (k.trans (k₁.trans k3))) (hx.kp (k.trans (k₁.trans k3))) N3 hm (C₁.keeps k3) (hc.keeps (k.trans (k₁.trans k3))) (by kernel_rfl) (by kernel_rfl) (by kernel_rfl) (by kernel_rfl) fun s₄ nx => wpAny_truthy_bool ⟨rfl, nx⟩
  intro D1 s2 nx2 pl2
  refine wpAny_List ?_
  refine args_cons ?_ (by kernel_rfl)
  refine wpAny_Name (wpAny_loadName_cell (by kernel_rfl) (by kernel_rfl) (by rfl) (C₁.keeps nx2.kp) ?_)
  refine args_nil ?_
  refine ⟨(by show 1 ≤ 16777216; decide), ?_⟩
  have kp3 : Kp s2.heap (s2.heap.push { cls := .type "list", data := .seq [Value.ref x].toArray }) := fun b o e => Heap.get?_push_of_some _ e
  have pl3 : (s2.heap.push { cls := .type "list", data := .seq [Value.ref x].toArray }).PlainList s2.heap.objs.size (([x]).map Value.ref).toArray := ⟨0, Heap.get?_push_size _ rfl⟩
  have hl1 : (ds.filter (fun d => askOp .Gt (rkA tt d x))).length ≤ ds.length := List.length_filter_le _ _
  have hl2 : (ds.filter (fun d => !askOp .Gt (rkA tt d x))).length ≤ ds.length := List.length_filter_le _ _
  refine add_pl (pl_kp pl2 kp3) pl3 (by simp only [List.length_singleton]; omega) fun h4 k4 pl4 => ?_
  have kk4 : Kp h₁ h4 := nx2.kp.trans (kp3.trans k4)
  refine lam_comp (D := D) (ds := ds) (fun d => askOp .Gt (rkA tt d x)) ok1.hd hlen (N₁.keeps kk4) (pl_kp hD (k.trans (k₁.trans kk4))) (by kernel_rfl) (by kernel_rfl) (by kernel_rfl) (by kernel_rfl) (by kernel_rfl) (by kernel_rfl) (by kernel_rfl) (by intro _; kernel_rfl) ?_ ?_
  · intro C' d s₃ m₃ E' hdm N3 hm k3
    refine wpAny_isTrue_Compare1 ?_
    have k5 := kk4.trans k3
    refine lam_tst .Gt (by simp) ok1 (X'.keeps (k₁.trans k5)) (C.kp (k.trans (k₁.trans k5))) ((hd d hdm).kp (k.trans (k₁.trans k5))) (hx.kp (k.trans (k₁.trans k5))) N3 hm (C₁.keeps k5) (hc.keeps (k.trans (k₁.trans k5))) (by kernel_rfl) (by kernel_rfl) (by kernel_rfl) (by kernel_rfl) fun s₄ nx => wpAny_truthy_bool ⟨rfl, nx⟩
  intro D5 s5 nx5 pl5
  refine add_pl (pl_kp pl4 nx5.kp) pl5 (by simp only [List.length_append, List.length_singleton]; omega) fun h6 k6 pl6 => ?_
  exact hQ _ _ ⟨k₁.trans (kk4.trans (nx5.kp.trans k6)), nx5.gens.trans nx2.gens, nx5.dr.trans nx2.dr, nx5.os.trans nx2.os⟩ ⟨_, rfl, pl6⟩
theorem lam3_none {w : World} {h : Heap} (X : (KK w).In h) {fa c : Addr} {pm ct : Value} {c' : Addr} (hf : h.get? fa = some ⟨.type "function", none, .func (lamF 13 c pm (.ref c') ct), #[]⟩) (hcd : h.CodeRec (.ref c') "law.<locals>.<lambda>")
    {x : Addr} : Cl w 8 h (.ref fa) [.none, .ref x] (fun r h' => ∃ D', r = .ref D' ∧ h'.PlainList D' (([x] : List Addr).map Value.ref).toArray) := by
  intro A s Q E ok k hQ
  have X' := X.keeps k
  refine wpAny_call ?_
  refine enterLC (lamF 13 c pm (.ref c') ct) (lamB (lam 13)) "done" "thing" .none (.ref x) ok.room X' (k _ _ hf) rfl (by obtain ⟨p, o, vs, t, e1, e2, e3⟩ := hcd; exact ⟨p, o, vs, t, e1, k _ _ e2, e3⟩) (by kernel_rfl) (by kernel_rfl) (by kernel_rfl) (by kernel_rfl) (by intro _; kernel_rfl) (by intro _; kernel_rfl) (by kernel_rfl) (by kernel_rfl) (by kernel_rfl) ?_
  intro h₁ tk N₁ C₁ k₁
  refine IfExp_ ?_
  refine wpAny_isTrue_Compare1 ?_
  refine nm_local N₁ (v := .none) (by kernel_rfl) ?_ (by kernel_rfl) (by kernel_rfl)
  refine wpAny_Constant_none ?_
  refine is_none ?_
  refine wpAny_truthy_bool ?_
  rw [if_pos (by decide)]
  refine wpAny_List ?_
  refine args_cons ?_ (by kernel_rfl)
  refine wpAny_Name (wpAny_loadName_cell (by kernel_rfl) (by kernel_rfl) (by rfl) C₁ ?_)
  refine args_nil ?_
  refine ⟨(by show 1 ≤ 16777216; decide), ?_⟩
  exact hQ _ _ ⟨k₁.trans fun b o e => Heap.get?_push_of_some _ e, rfl, rfl, rfl⟩ ⟨_, rfl, 0, Heap.get?_push_size _ rfl⟩
end Mine

set_option maxRecDepth 100000
set_option maxHeartbeats 400000
namespace Mine
open PySem.Calls

/-! ## sorted(.., key=key) -/
def kRun (lt : Nat → Nat → Bool) {α : Type} : KasT α → α
  | .ret a => a
  | .ask i j k => kRun lt (k (lt i j))
def kOk (lt : Nat → Nat → Bool) (n : Nat) {α : Type} : KasT α → Bool
  | .ret _ => true
  | .ask i j k => decide (i < n) && decide (j < n) && kOk lt n (k (lt i j))
theorem kas_run {α : Type} {lt : Nat → Nat → Bool} {n : Nat} {cmp : Nat → Nat → (Bool → Shared → Prop) → Shared → Prop} (I : Shared → Prop)
    (hc : ∀ i j C s, i < n → j < n → I s → (∀ s', I s' → C (lt i j) s') → cmp i j C s) {G : α → Shared → Prop} : ∀ (t : KasT α) (s : Shared), kOk lt n t = true → I s → (∀ s', I s' → G (kRun lt t) s') → t.kasWp cmp G s
  | .ret a, s, _, hI, h => h s hI
  | .ask i j k, s, ho, hI, h => by
    simp only [kOk, Bool.and_eq_true, decide_eq_true_eq] at ho
    exact hc i j _ s ho.1.1 ho.1.2 hI fun s' hI' => kas_run I hc (k (lt i j)) s' ho.2 hI' h

structure SrtSt (s₀ : Shared) (kS a : Addr) (keys : Array Value) (e e1 : Nat) (s : Shared) : Prop where
  kp : Kp s₀.heap s.heap
  k : s.heap.get? kS = some (seqObj "list" keys e)
  a : s.heap.get? a = some (seqObj "list" #[] e1)
  gens : s.gens = s₀.gens
  dr : s.drawn = s₀.drawn
  os : s.os = s₀.os
theorem SrtSt.nx {s₀ s s' : Shared} {kS a : Addr} {keys : Array Value} {e e1 : Nat} (x : SrtSt s₀ kS a keys e e1 s) (n : Nx s s') : SrtSt s₀ kS a keys e e1 s' :=
  ⟨x.kp.trans n.kp, n.kp _ _ x.k, n.kp _ _ x.a, n.gens.trans x.gens, n.dr.trans x.dr, n.os.trans x.os⟩

section
variable {w : World} {A : Around} {E : Value → Shared → Prop} {s₀ : Shared} {h : Heap} {kS a : Addr} {as xs : List Addr} {tt : Addr → Str} {e1 : Nat}

theorem srt_tail {P : PySem.Fin → Shared → Prop} {st : SortSt} {s : Shared} {keys : Array Value} {e : Nat} (hka : kS ≠ a) (hk0 : s₀.heap.get? kS = none) (ha0 : s₀.heap.get? a = none) (hkz : keys.size ≤ 1000)
    (S : SrtSt s₀ kS a keys e e1 s) {out : Array Value} (ho : (arrOf st).map (·.2) = out) (hz : out.size ≤ 1000) (hf : failedOf st = none)
    (hP : ∀ s', Nx s₀ s' → s'.heap.PlainList a out → P (.done (.ret .none)) s') : wpAny (MM w) A (ksk_tail a false e1 (.ref kS) st) P E s := by
  have s1 := Heap.SameBut.update s.heap kS (Obj.mapSeq fun _ => (#[] : Array Value))
  have na1 : (s.heap.update kS (Obj.mapSeq fun _ => (#[] : Array Value))).get? a = some (seqObj "list" #[] e1) := (s1.2 a hka.symm).trans S.a
  have s2 := Heap.SameBut.update (s.heap.update kS (Obj.mapSeq fun _ => (#[] : Array Value))) a (Obj.mapSeq fun _ => out)
  obtain ⟨c2, hc2⟩ : ∃ c2, ((s.heap.update kS (Obj.mapSeq fun _ => (#[] : Array Value))).update a (Obj.mapSeq fun _ => out)).get? a = some (seqObj "list" out c2) := ⟨_, get?_update_seq na1 fun _ => out⟩
  unfold ksk_tail
  dsimp only
  rw [ho]
  refine wpAny_bind (listUpdate_at S.k rfl ?_ (by rw [sizeLine_eq]; omega) (Nat.zero_le _))
  refine wpAny_bind (wpAny_letGo ?_)
  refine wpAny_bind (seqEpoch_at na1 rfl ?_)
  refine wpAny_bind (listUpdate_at na1 rfl ?_ (Nat.zero_le _) (Nat.le_trans hz (by rw [sizeLine_eq]; omega)))
  rw [hf]
  simp only [bne_self_eq_false, Bool.false_eq_true, if_false]
  refine wpAny_pure (hP _ ⟨fun b o q => ?_, S.gens, S.dr, S.os⟩ ⟨c2, hc2⟩)
  exact s2.extBut b o (by rintro rfl; rw [ha0] at q; cases q) (s1.extBut b o (by rintro rfl; rw [hk0] at q; cases q) (S.kp b o q))

theorem srt_end {P : PySem.Fin → Shared → Prop} {s : Shared} {e : Nat} (X : (KK w).In h) (C : CF h) (kh : Kp h s₀.heap) (ht : ∀ a ∈ as, Title h a (tt a)) (h2 : 2 ≤ as.length) (h64 : as.length < 64) (ok : Okay 7 A)
    (hka : kS ≠ a) (hk0 : s₀.heap.get? kS = none) (ha0 : s₀.heap.get? a = none) (hx : xs.length = as.length) (hi : ∀ i (h1 : i < xs.length) (h2 : i < as.length), Inst s.heap xs[i] as[i])
    (S : SrtSt s₀ kS a (xs.map Value.ref).toArray e e1 s) (lt : Nat → Nat → Bool) (hlt : ∀ i j (h1 : i < as.length) (h2 : j < as.length), lt i j = askOp .Lt (rkA tt as[i] as[j])) (hok : kOk lt as.length (kas_sort as.length) = true)
     (hP : ∀ s', Nx s₀ s' → s'.heap.PlainList a ((kRun lt (kas_sort as.length)).toList.map fun i => (as.map Value.ref).getD i Value.none).toArray → P (.done (.ret .none)) s') :
    wpAny (MM w) A (ksk_end a false (as.map Value.ref).toArray e1 (.ref kS) (xs.map Value.ref).toArray) P E s := by
  have hu : A.units < cLine := by have := ok.un; show A.units < 9900; omega
  unfold ksk_end
  dsimp only
  simp only [Bool.false_eq_true, if_false]
  have hn2 : ¬ (as.map Value.ref).toArray.size < 2 := by rw [List.size_toArray, List.length_map]; omega
  rw [if_neg hn2, if_neg hn2]
  refine wpAny_bind (kas_kind (T := .ref 302) (by rw [List.length_map]; omega) (fun v hv => ?_) (by decide) (by decide) ?_)
  · obtain ⟨x, hx', rfl⟩ := List.mem_map.mp hv
    obtain ⟨i, h1, rfl⟩ := List.mem_iff_getElem.mp hx'
    obtain ⟨d, od, I⟩ := (hi i h1 (by omega)).at
    exact I.type
  have hitem : ∀ i (h1 : i < xs.length) (h2 : i < as.length), kas_item ((xs.map Value.ref).toArray.zip (as.map Value.ref).toArray) i = (.ref xs[i], .ref as[i]) := fun i h1 h2 => by
    simp [kas_item, Array.getD]
    rw [dif_pos (by omega)]
  have est : SortSt.mk' oneType' ((xs.map Value.ref).toArray.zip (as.map Value.ref).toArray) #[] 7 none = kas_st oneType' ((xs.map Value.ref).toArray.zip (as.map Value.ref).toArray) (List.toArray (List.range as.length)) := by
    have e := kas_range ((xs.map Value.ref).toArray.zip (as.map Value.ref).toArray)
    have ez : ((xs.map Value.ref).toArray.zip (as.map Value.ref).toArray).size = as.length := by simp [hx]
    rw [ez] at e
    show SortSt.mk' oneType' _ #[] 7 none = SortSt.mk' oneType' ((List.toArray (List.range as.length)).map (kas_item ((xs.map Value.ref).toArray.zip (as.map Value.ref).toArray))) #[] 7 none
    rw [e]
  have ask : (kas_sort as.length).kasWp (kas_cmp PR w A oneType' ((xs.map Value.ref).toArray.zip (as.map Value.ref).toArray)) (fun p s' => p = kRun lt (kas_sort as.length) ∧ SrtSt s₀ kS a (xs.map Value.ref).toArray e e1 s') s := by
    refine kas_run (lt := lt) (n := as.length) (fun s' => SrtSt s₀ kS a (xs.map Value.ref).toArray e e1 s' ∧ ∀ i (h1 : i < xs.length) (h2 : i < as.length), Inst s'.heap xs[i] as[i]) ?_ _ s hok ⟨S, hi⟩ fun s' hI => ⟨rfl, hI.1⟩
    intro i j D s1 h1 h3 hI hD
    have k1 : Kp h s1.heap := kh.trans hI.1.kp
    have i1 := hI.2 i (by omega) h1
    have i2 := hI.2 j (by omega) h3
    obtain ⟨vv, Xv⟩ := (C.kp k1).frag
    obtain ⟨d, od, I⟩ := i1.at
    unfold kas_cmp
    rw [hitem i (by omega) h1, hitem j (by omega) h3]
    dsimp only
    rw [keyLt'_oneType, oneLt'_eq]
    simp only [if_true]
    refine wpAny_bind (wpAny_cRoomFor hu ?_)
    refine wpAny_bind (ifBound_K Xv I (f := 266) (by kernel_rfl) (by kernel_rfl) (meth_lt cap_c (X.keeps k1) (C.kp k1) i1 i2 ((ht _ (List.getElem_mem h1)).kp k1) ((ht _ (List.getElem_mem h3)).kp k1) _ _ _ _ ok (Kp.refl _) ?_))
    rintro _ s2 nx2 rfl
    refine wpAny_truthy_bool ?_
    have := hD s2 ⟨hI.1.nx nx2, fun i h1 h2 => (hI.2 i h1 h2).kp nx2.kp⟩
    rw [hlt i j h1 h3] at this
    exact this
  have run := kas_runs (E := E) (Q := fun _ st' s' => ∃ p : Array Nat, p = kRun lt (kas_sort as.length) ∧ p.size = as.length ∧ arrOf st' = p.map (kas_item ((xs.map Value.ref).toArray.zip (as.map Value.ref).toArray)) ∧ failedOf st' = none ∧ SrtSt s₀ kS a (xs.map Value.ref).toArray e e1 s')
    h2 h64 (fun p' st' s' a1 a2 a3 a4 => ⟨p', a4.1, a1, a2, a3, a4.2⟩) ask
  rw [← est] at run
  refine wpAny_bind (wpAny_mono run ?_ fun _ _ e => e)
  rintro ⟨⟨⟩, st'⟩ s' ⟨p, rfl, hp, har, hf, S'⟩
  refine srt_tail hka hk0 ha0 (by rw [List.size_toArray, List.length_map]; omega) S' (out := ((kRun lt (kas_sort as.length)).toList.map fun i => (as.map Value.ref).getD i Value.none).toArray) ?_ (by rw [List.size_toArray, List.length_map, Array.length_toList]; omega) hf hP
  apply Array.toList_inj.mp
  rw [har, Array.map_map, Array.toList_map]
  refine List.map_congr_left fun i _ => ?_
  show (kas_item ((xs.map Value.ref).toArray.zip (as.map Value.ref).toArray) i).2 = _
  by_cases hi' : i < as.length
  · rw [hitem i (by omega) hi']; simp [hi']
  · simp [kas_item, Array.getD, hx, hi']

theorem srt_rest {P : PySem.Fin → Shared → Prop} {s : Shared} (X : (KK w).In h) (C : CF h) (kh : Kp h s₀.heap) (ht : ∀ a ∈ as, Title h a (tt a)) (h2 : 2 ≤ as.length) (h64 : as.length < 64) (ok : Okay 7 A)
    (hka : kS ≠ a) (hk0 : s₀.heap.get? kS = none) (ha0 : s₀.heap.get? a = none)
    (S : SrtSt s₀ kS a #[] 0 e1 s) (lt : Nat → Nat → Bool) (hlt : ∀ i j (h1 : i < as.length) (h2 : j < as.length), lt i j = askOp .Lt (rkA tt as[i] as[j])) (hok : kOk lt as.length (kas_sort as.length) = true)
    (hP : ∀ s', Nx s₀ s' → s'.heap.PlainList a ((kRun lt (kas_sort as.length)).toList.map fun i => (as.map Value.ref).getD i Value.none).toArray → P (.done (.ret .none)) s') :
    wpAny (MM w) A (ksk_rest a (.ref 302) false (as.map Value.ref).toArray e1 (.ref kS)) P E s := by
  unfold ksk_rest
  refine wpAny_bind (wpAny_rule ?_)
  rw [List.forIn_toArray]
  refine wpAny_bind (ksk_fold (fun i s' => ∃ (xs : List Addr) (e : Nat), xs.length = i ∧ SrtSt s₀ kS a (xs.map Value.ref).toArray e e1 s' ∧ ∀ i (h1 : i < xs.length) (h2 : i < as.length), Inst s'.heap xs[i] as[i]) (as.map Value.ref) 0 s
    ⟨[], 0, rfl, S, fun i h1 => absurd h1 (Nat.not_lt_zero _)⟩ ?step ?done)
  case step =>
    rintro j x s' hx ⟨xs, e, hxl, S', hi⟩
    simp only [Nat.zero_add] at hxl ⊢
    obtain ⟨hj, hjx⟩ := List.getElem?_eq_some_iff.mp hx
    rw [List.length_map] at hj
    rw [List.getElem_map] at hjx
    subst hjx
    have k1 : Kp h s'.heap := kh.trans S'.kp
    refine wpAny_bind (wpAny_attempt (mk_K (X.keeps k1) (C.kp k1) as[j] _ _ _ _ (ok.le (by decide)) (Kp.refl _) ?_))
    rintro _ s2 nx2 ⟨y, rfl, iy⟩
    dsimp only
    have S2 := S'.nx nx2
    have s1 := Heap.SameBut.update s2.heap kS (Obj.mapSeq (·.push (.ref y)))
    obtain ⟨c2, hc2⟩ : ∃ c2, (s2.heap.update kS (Obj.mapSeq (·.push (.ref y)))).get? kS = some (seqObj "list" ((xs.map Value.ref).toArray.push (.ref y)) c2) := ⟨_, get?_update_seq S2.k (·.push (.ref y))⟩
    have ksq : ∀ {x d : Addr}, Inst s2.heap x d → Inst (s2.heap.update kS (Obj.mapSeq (·.push (.ref y)))) x d := fun {x d} ⟨dd, od, e, e'⟩ => by
      have e2 := s1.extBut x _ (by rintro rfl; rw [S2.k] at e; cases e) e
      by_cases hq : dd = kS
      · exact ⟨dd, _, e2, by rw [hq]; exact hc2⟩
      · exact ⟨dd, od, e2, s1.extBut _ _ hq e'⟩
    refine wpAny_bind (listUpdate_at S2.k rfl ?_ (by rw [List.size_toArray, List.length_map, sizeLine_eq]; omega) (by rw [Array.size_push, List.size_toArray, List.length_map, sizeLine_eq]; omega))
    refine wpAny_pure ⟨rfl, xs ++ [y], c2, by simp [hxl], ⟨fun b o q => s1.extBut b o (by rintro rfl; rw [hk0] at q; cases q) (S2.kp b o q), by simpa using hc2, (s1.2 a hka.symm).trans S2.a, S2.gens, S2.dr, S2.os⟩, fun i h1 h3 => ?_⟩
    by_cases hlast : i < xs.length
    · rw [List.getElem_append_left hlast]
      exact ksq ((hi i hlast h3).kp nx2.kp)
    · have : i = xs.length := by rw [List.length_append, List.length_singleton] at h1; omega
      subst this
      simp only [List.getElem_concat_length, hxl]
      exact ksq iy
  case done =>
    rintro s' ⟨xs, e, hxl, S', hi⟩
    rw [Nat.zero_add, List.length_map] at hxl
    refine wpAny_bind (listItems_at S'.k rfl ?_)
    exact srt_end X C kh ht h2 h64 ok hka hk0 ha0 hxl hi S' lt hlt hok hP

theorem sorted_c {l : Addr} (X : (KK w).In h) (C : CF h) (hl : h.IsList l (as.map Value.ref).toArray) (ht : ∀ a ∈ as, Title h a (tt a)) (h2 : 2 ≤ as.length) (h64 : as.length < 64)
    (lt : Nat → Nat → Bool) (hlt : ∀ i j (h1 : i < as.length) (h2 : j < as.length), lt i j = askOp .Lt (rkA tt as[i] as[j])) (hok : kOk lt as.length (kas_sort as.length) = true)
    {s : Shared} {Q : Value → Shared → Prop} (ok : Okay 9 A) (k : Kp h s.heap)
    (hQ : ∀ D s', Nx s s' → s'.heap.PlainList D ((kRun lt (kas_sort as.length)).toList.map fun i => (as.map Value.ref).getD i Value.none).toArray → Q (.ref D) s') :
    wpAny (MM w) A (call (.builtin "sorted") [.ref l] [("key", .ref 302)]) Q E s := by
  refine call_function_entry_kw kind_sorted plain_sorted entry_sorted (ksk_s1 _ _) ?_
  unfold Builtin.«sorted»
  refine wpAny_bind (m := checkCount "sorted" 1 1 _) (wpAny_pure ?_)
  have hz : (as.map Value.ref).length < 64 := by rw [List.length_map]; exact h64
  generalize hvs : as.map Value.ref = vs at hl hz ⊢
  refine wpAny_bind (collect_list (list_kp hl k) ?_ (by rw [sizeLine_eq]; omega))
  refine wpAny_bind (wpAny_newList ?_ (by rw [sizeLine_eq]; omega))
  have hsz : ((s.heap.push (seqObj "list" #[] 0)).update s.heap.objs.size (Obj.mapSeq (· ++ vs.toArray))).objs.size = s.heap.objs.size + 1 := by
    rw [Heap.size_update, size_push']
  generalize hH : (s.heap.push (seqObj "list" #[] 0)).update s.heap.objs.size (Obj.mapSeq (· ++ vs.toArray)) = H at hsz
  have hoL : (H.push (seqObj "list" vs.toArray 0)).get? (s.heap.objs.size + 1) = some (seqObj "list" vs.toArray 0) := by
    rw [← hsz]; exact Heap.get?_push_size _ rfl
  have keep : Kp s.heap (H.push (seqObj "list" vs.toArray 0)) := fun b o q => by
    have hlt : b < s.heap.objs.size := Heap.lt_size q
    rw [Heap.get?_push_ne _ _ _ (by rw [hsz]; exact Nat.ne_of_lt (Nat.lt_succ_of_lt hlt)), ← hH, Heap.get?_update_ne _ _ _ _ (Nat.ne_of_lt hlt), Heap.get?_push_ne _ _ _ (Nat.ne_of_lt hlt)]
    exact q
  have a0 : s.heap.get? (s.heap.objs.size + 1) = none := Heap.get?_none_of_le (Nat.le_succ _)
  show wpAny _ _ _ _ _ { s with heap := H.push (seqObj "list" vs.toArray 0) }
  dsimp only
  rw [hsz]
  refine wpAny_bind (wpAny_holding (wpAny_call_entry_kw slot_list_sort ⟨_, hoL, rfl⟩ entry_list_sort ?body (ksk_l1 _ _)))
  case body =>
    show wpAny (model PR w) A.in1.in1 (Builtin.«list.sort» ⟨[.ref (s.heap.objs.size + 1)], [(Str.ofString "key", .ref 302)]⟩) _ _ _
    rw [ksk_t1]
    generalize hH2 : H.push (seqObj "list" vs.toArray 0) = H2 at hoL keep ⊢
    have s1 := Heap.SameBut.update H2 (s.heap.objs.size + 1) (Obj.mapSeq fun _ => (#[] : Array Value))
    obtain ⟨e1, ho1⟩ : ∃ e1, (H2.update (s.heap.objs.size + 1) (Obj.mapSeq fun _ => (#[] : Array Value))).get? (s.heap.objs.size + 1) = some (seqObj "list" #[] e1) := ⟨_, get?_update_seq hoL fun _ => #[]⟩
    have hkS : ((H2.update (s.heap.objs.size + 1) (Obj.mapSeq fun _ => (#[] : Array Value))).push (seqObj "tuple" vs.toArray 0)).objs.size = s.heap.objs.size + 3 := by rw [size_push', Heap.size_update, ← hH2, size_push', hsz]
    unfold ksk_tree
    refine wpAny_bind (listItems_at hoL rfl ?_)
    refine wpAny_bind (listUpdate_at hoL rfl ?_ (by rw [List.size_toArray, sizeLine_eq]; omega) (Nat.zero_le _))
    refine wpAny_bind (seqEpoch_at ho1 rfl ?_)
    refine wpAny_bind (wpAny_newTuple ?_ (by show vs.length ≤ _; rw [sizeLine_eq]; omega))
    refine wpAny_bind (wpAny_newList ?_ (Nat.zero_le _))
    refine wpAny_holding ?_
    subst hvs
    refine srt_rest (s₀ := s) (e1 := e1) (kS := ((H2.update (s.heap.objs.size + 1) (Obj.mapSeq fun _ => (#[] : Array Value))).push (seqObj "tuple" (as.map Value.ref).toArray 0)).objs.size) X C k ht h2 h64 (ok.in1.in1) (fun e => absurd (Nat.add_left_cancel (hkS.symm.trans e)) (by decide)) (Heap.get?_none_of_le (by rw [hkS]; omega)) a0 ?S lt hlt hok ?_
    case S =>
      refine ⟨fun b o q => ?_, ?_, ?_, rfl, rfl, rfl⟩
      · refine Heap.get?_push_of_some _ (Heap.get?_push_of_some _ (s1.extBut b o (by rintro rfl; rw [a0] at q; cases q) (keep b o q)))
      · exact Heap.get?_push_size _ rfl
      · exact Heap.get?_push_of_some _ (Heap.get?_push_of_some _ ho1)
    intro s' nx pl
    refine ⟨_, rfl, wpAny_pure ⟨_, rfl, hQ _ s' nx pl⟩⟩
end
end Mine

set_option maxRecDepth 100000
set_option maxHeartbeats 1000000
namespace Mine
open PySem.Calls Builtin

/-! ## walks with sizes -/
structure WalkZ (w : World) (A : Around) (I : Addr) (fp : List Addr) (n : Nat) (P : Nat → Value → Prop) (St : Nat → Heap → Prop) : Prop where
  mem : I ∈ fp
  frame : ∀ i h h', St i h → (∀ b ∈ fp, ∀ o, h.get? b = some o → h'.get? b = some o) → St i h'
  item : ∀ i (s : Shared) (Q : Option Value → Shared → Prop) (E : Value → Shared → Prop), i < n → St i s.heap →
    (∀ v h' tk, P i v → St (i + 1) h' → Heap.SameBut I s.heap h' → Q (some v) { s with heap := h', toks := tk }) → wpAny (MM w) A (pyNext (.ref I)) Q E s
  done : ∀ (s : Shared) (Q : Option Value → Shared → Prop) (E : Value → Shared → Prop), St n s.heap →
    (∀ h', Heap.ExtBut I s.heap h' → h'.objs.size = s.heap.objs.size + 2 → Q none { s with heap := h' }) → wpAny (MM w) A (pyNext (.ref I)) Q E s
  self : ∀ i (s : Shared) (Q : Value → Shared → Prop) (E : Value → Shared → Prop), St i s.heap → Q (.ref I) s → wpAny (MM w) A (pyIter (.ref I)) Q E s

section
variable {w : World} {A : Around} {E : Value → Shared → Prop} {s : Shared}
theorem pn_list_end {it l : Addr} {i : Nat} {items : Array Value} {Q : Option Value → Shared → Prop} (hh : A.handled = none) (hit : s.heap.IsListIter it l i)
    (hl : s.heap.IsList l items) (hx : items[i]? = none)
    (hQ : ∀ h', Heap.ExtBut it s.heap h' → h'.objs.size = s.heap.objs.size + 2 → Q none { s with heap := h' }) :
    wpAny (MM w) A (pyNext (.ref it)) Q E s := by
  unfold pyNext
  refine wpAny_bind (wpAny_attempt (li_end hh hit hl hx fun h' e o he hc sb hz => ?_))
  refine wpAny_bind (wpAny_isInstance (T := "StopIteration") (b := true) ⟨_, he, hc⟩ isSubtype_stop ?_)
  exact wpAny_pure (hQ h' sb hz)
theorem pn_range_end {it : Addr} {x left step : Int} {Q : Option Value → Shared → Prop} (hh : A.handled = none) (hit : IsRangeIter s.heap it x left step) (hleft : left ≤ 0)
    (hQ : ∀ h', Heap.ExtBut it s.heap h' → h'.objs.size = s.heap.objs.size + 2 → Q none { s with heap := h' }) : wpAny (MM w) A (pyNext (.ref it)) Q E s := by
  have hT : s.TypeIs (.ref it) "range_iterator" := ⟨_, hit, rfl⟩
  unfold pyNext
  refine wpAny_bind (wpAny_attempt (wpAny_callSpecial?_slot (name := Str.ofString "__next__") hT F.slot_range_iterator_next
    (wpAny_call_entry F.slot_range_iterator_next hT F.entry_range_iterator_next ?_ (F.args_range_iterator_next_1 _))))
  show wpAny _ _ (field (.ref it) 0 >>= _) _ _ s
  refine wpAny_bind (wpAny_field hit rfl (x := rawInt x) rfl ?_)
  show wpAny _ _ (field (.ref it) 1 >>= _) _ _ s
  refine wpAny_bind (wpAny_field hit rfl (x := rawInt left) rfl ?_)
  show wpAny _ _ (field (.ref it) 2 >>= _) _ _ s
  refine wpAny_bind (wpAny_field hit rfl (x := rawInt step) rfl ?_)
  show wpAny _ _ (if left ≤ 0 then _ else _) _ _ s
  rw [if_pos hleft]
  refine wpAny_bind (wpAny_rule ?_)
  refine wpAny_bind ?_
  show wpAny _ _ (newExc (.type "StopIteration") [] >>= _) _ _ _
  refine wpAny_bind ?_
  simp only [newExc, newTuple]
  refine wpAny_bind (wpAny_newObj_type ?_ (by size_fits))
  refine wpAny_bind (m := firstArgMember _ _) (wpAny_of_eq (a := Value.none) (by first | rfl | (simp only [firstArgMember]; rfl)) ?_)
  refine wpAny_newObj_type ?_ (by size_fits)
  simp only [raiseNew]
  refine wpAny_bind (wpAny_handled ?_)
  first | rw [show A.in1.handled = none from hh] | rw [hh]
  refine wpAny_bind (wpAny_pure (wpAny_throw ?_))
  refine wpAny_bind (wpAny_isInstance (T := "StopIteration") (b := true) ⟨_, Heap.get?_push_size _ rfl, rfl⟩ isSubtype_stop ?_)
  exact wpAny_pure (hQ _ (((Heap.ExtBut.refl it s.heap).push _).push _) (by rw [Heap.size_push, Heap.size_push]))
end
theorem WalkZ.list {w : World} {A : Around} (hh : A.handled = none) (I ax : Addr) (hne : ax ≠ I) (items : Array Value) :
    WalkZ w A I [I, ax] items.size (fun i v => items[i]? = some v) (fun i h => h.IsListIter I ax i ∧ h.IsList ax items) where
  mem := by simp
  frame := fun _ _ _ st hk => ⟨st.1.at fun o e => hk I (by simp) o e, st.2.at fun o e => hk ax (by simp) o e⟩
  item := fun i s Q E hi st hQ => by
    refine wpAny_pyNext_list_item st.1 st.2 (x := items[i]) (by simp [hi]) fun h' hit' hs' => ?_
    exact hQ _ h' s.toks (by simp [hi]) ⟨hit', st.2.extBut hs'.extBut hne⟩ hs'
  done := fun s Q E st hQ => pn_list_end hh st.1 st.2 (by simp) hQ
  self := fun _ _ _ _ st hQ => wpAny_pyIter_listiter st.1 hQ
theorem WalkZ.range {w : World} {A : Around} (hh : A.handled = none) (I : Addr) (n : Nat) :
    WalkZ w A I [I] n (fun i v => i < n ∧ ∃ t, v = .int i t) (fun i h => IsRangeIter h I (i : Nat) ((n : Int) - (i : Nat)) 1) where
  mem := by simp
  frame := fun _ _ _ st hk => hk I (by simp) _ st
  item := fun i s Q E hi st hQ => by
    refine wpAny_pyNext_range_item st (by omega) fun h' hit' hs' => ?_
    refine hQ _ h' _ ⟨hi, _, rfl⟩ ?_ hs'
    have e1 : ((i + 1 : Nat) : Int) = (i : Int) + 1 := by push_cast; rfl
    have e2 : (n : Int) - ((i + 1 : Nat) : Int) = (n : Int) - (i : Int) - 1 := by push_cast; omega
    rw [e1, ← e1, e2]; exact hit'
  done := fun s Q E st hQ => pn_range_end hh st (by omega) hQ
  self := fun _ _ _ _ st hQ => wpAny_pyIter_rangeiter st hQ

inductive Made (F : Value → Value → List (Addr × Obj) → Prop) (B : Nat) (h : Heap) : List Value → List Value → Prop
  | nil : Made F B h [] []
  | cons {v y f vs ys} : F v y f → (∀ q ∈ f, h.get? q.1 = some q.2 ∧ B ≤ q.1) → Made F B h vs ys → Made F B h (v :: vs) (y :: ys)
theorem Made.snoc {F : Value → Value → List (Addr × Obj) → Prop} {B : Nat} {h : Heap} {v y : Value} {f : List (Addr × Obj)} : ∀ {vs ys : List Value}, Made F B h vs ys → F v y f → (∀ q ∈ f, h.get? q.1 = some q.2 ∧ B ≤ q.1) → Made F B h (vs ++ [v]) (ys ++ [y])
  | _, _, .nil, hf, hp => .cons hf hp .nil
  | _, _, .cons a b r, hf, hp => .cons a b (r.snoc hf hp)
theorem Made.mono {F : Value → Value → List (Addr × Obj) → Prop} {B : Nat} {h h' : Heap} (k : ∀ b o, B ≤ b → h.get? b = some o → h'.get? b = some o) : ∀ {vs ys : List Value}, Made F B h vs ys → Made F B h' vs ys
  | _, _, .nil => .nil
  | _, _, .cons a b r => .cons a (fun q hq => ⟨k _ _ (b q hq).2 (b q hq).1, (b q hq).2⟩) (r.mono k)
theorem Made.length {F : Value → Value → List (Addr × Obj) → Prop} {B : Nat} {h : Heap} : ∀ {vs ys : List Value}, Made F B h vs ys → ys.length = vs.length
  | _, _, .nil => rfl
  | _, _, .cons _ _ r => by simp [r.length]

structure TurnY (w : World) (A : Around) (env : Env) (scope : Scope) (cl : List (Str × Addr)) (x : Str) (ifs : List Expr) (elt : Expr) (I : Addr) (P : Nat → Value → Prop) (p : Value → Bool)
    (F : Value → Value → List (Addr × Obj) → Prop) (g : Option Nat) (s₂ : Shared) : Prop where
  tests : ∀ C i v s₃ m₃ E', s₂.heap.objs.size ≤ C → P i v → s₃.heap.Ns C m₃ → m₃ x = some v → (∀ b o, b ≠ I → s₂.heap.get? b = some o → s₃.heap.get? b = some o) →
    wpAny (MM w) A (forIn ifs true fun c r => if r = true then do let ok ← isTrue c (compEnvC scope cl C env) (eval c (compEnvC scope cl C env)); pure (ForInStep.yield ok) else pure (ForInStep.yield r))
      (fun ok s₄ => ok = p v ∧ Nx s₃ s₄ ∧ (g.isSome = true → s₄.heap.objs.size = s₃.heap.objs.size)) E' s₃
  elt : ∀ C i v s₃ m₃ E', s₂.heap.objs.size ≤ C → P i v → p v = true → s₃.heap.Ns C m₃ → m₃ x = some v → (∀ b o, b ≠ I → s₂.heap.get? b = some o → s₃.heap.get? b = some o) →
    (∀ k, g = some k → (∀ u, p u = true) → s₃.heap.objs.size = s₂.heap.objs.size + 2 + k * i) → wpAny (MM w) A (eval elt (compEnvC scope cl C env)) (fun y s₄ => (∃ f, F v y f ∧ ∀ q ∈ f, s₄.heap.get? q.1 = some q.2 ∧ C < q.1) ∧ Nx s₃ s₄ ∧ ∀ k, g = some k → s₄.heap.objs.size = s₃.heap.objs.size + k) E' s₃

structure TurnZ (w : World) (A : Around) (env : Env) (scope : Scope) (cl : List (Str × Addr)) (x : Str) (ifs : List Expr) (elt : Expr) (I : Addr) (P : Nat → Value → Prop) (p : Value → Bool)
    (F : Value → Value → List (Addr × Obj) → Prop) (g : Option Nat) (s₂ : Shared) : Prop where
  tests : ∀ C i v s₃ m₃ E', s₂.heap.objs.size ≤ C → P i v → s₃.heap.Ns C m₃ → m₃ x = some v → (∀ b o, b ≠ I → s₂.heap.get? b = some o → s₃.heap.get? b = some o) →
    wpAny (MM w) A (forIn ifs true fun c r => if r = true then do let ok ← isTrue c (compEnvC scope cl C env) (eval c (compEnvC scope cl C env)); pure (ForInStep.yield ok) else pure (ForInStep.yield r))
      (fun ok s₄ => ok = p v ∧ Nx s₃ s₄ ∧ (g.isSome = true → s₄.heap.objs.size = s₃.heap.objs.size)) E' s₃
  elt : ∀ C i v s₃ m₃ E', s₂.heap.objs.size ≤ C → P i v → p v = true → s₃.heap.Ns C m₃ → m₃ x = some v → (∀ b o, b ≠ I → s₂.heap.get? b = some o → s₃.heap.get? b = some o) →
    wpAny (MM w) A (eval elt (compEnvC scope cl C env)) (fun y s₄ => (∃ f, F v y f ∧ ∀ q ∈ f, s₄.heap.get? q.1 = some q.2 ∧ C < q.1) ∧ Nx s₃ s₄ ∧ ∀ k, g = some k → s₄.heap.objs.size = s₃.heap.objs.size + k) E' s₃

theorem TurnZ.y {w : World} {A : Around} {env : Env} {scope : Scope} {cl : List (Str × Addr)} {x : Str} {ifs : List Expr} {elt : Expr} {I : Addr} {P : Nat → Value → Prop} {p : Value → Bool} {F : Value → Value → List (Addr × Obj) → Prop} {g : Option Nat} {s₂ : Shared} (T : TurnZ w A env scope cl x ifs elt I P p F g s₂) : TurnY w A env scope cl x ifs elt I P p F g s₂ :=
  ⟨T.tests, fun C i v s₃ m₃ E' h1 h2 h3 h4 h5 h6 _ => T.elt C i v s₃ m₃ E' h1 h2 h3 h4 h5 h6⟩

theorem Heap.SameBut.sz {a : Addr} {h h' : Heap} (x : Heap.SameBut a h h') : h'.objs.size = h.objs.size := x.1

theorem lc_loop {w : World} {A : Around} {env : Env} {scope : Scope} {cl : List (Str × Addr)} {x : Str} {px pos : Pos} {iter elt : Expr} {ifs : List Expr} {R : Result → Shared → Prop} {s₂ s : Shared} {I D C : Addr} {fp : List Addr} {n : Nat} {P : Nat → Value → Prop} {St : Nat → Heap → Prop} {p : Value → Bool}
    {F : Value → Value → List (Addr × Obj) → Prop} {g : Option Nat} {m : Str → Option Value} (W : WalkZ w A I fp n P St) (hn : n ≤ 10000)
    (hx : (compEnvC scope cl C env).kindOf x = some .local) (hkind : scope.kind = .function) (hfp : ∀ b ∈ fp, b < s₂.heap.objs.size) (hD : D = s₂.heap.objs.size) (hC : C = s₂.heap.objs.size + 1)
    (T : TurnY w A env scope cl x ifs elt I P p F g s₂) (hst : St 0 s.heap) (hacc : s.heap.PlainList D #[]) (hns : s.heap.Ns C m) (hsz : s.heap.objs.size = s₂.heap.objs.size + 2)
    (hold : ∀ b o, s₂.heap.get? b = some o → s.heap.get? b = some o)
    (hR : ∀ s' m' ys (vs : List Value), s'.heap.Ns C m' → s'.heap.PlainList D ys → vs.length = n → (∀ j v, vs[j]? = some v → P j v) → Made F (s₂.heap.objs.size + 2) s'.heap (vs.filter p) ys.toList →
      (∀ b o, b ≠ I → s₂.heap.get? b = some o → s'.heap.get? b = some o) → s'.gens = s.gens → s'.drawn = s.drawn → s'.os = s.os → (∀ k, g = some k → s'.heap.objs.size = s₂.heap.objs.size + 4 + k * ys.size) → R (.ok .next) s') :
    codeAny (MM w) A (.compLoop (.ListComp elt [⟨.Name x px, iter, ifs, 0⟩] scope pos) 0 (.ref I) (.ref D) (compEnvC scope cl C env)) R s := by
  have hDI : D ≠ I := by have := hfp I W.mem; rw [hD]; exact Nat.ne_of_gt this
  have hCI : C ≠ I := by have := hfp I W.mem; rw [hC]; exact Nat.ne_of_gt (Nat.lt_succ_of_lt this)
  have hDC : D ≠ C := by rw [hD, hC]; exact Nat.ne_of_lt (Nat.lt_succ_self _)
  have hDf : D ∉ fp := fun h => by have := hfp _ h; rw [hD] at this; exact Nat.lt_irrefl _ this
  have hCf : C ∉ fp := fun h => by have := hfp _ h; rw [hC] at this; exact absurd this (Nat.not_lt.mpr (Nat.le_succ _))
  have lo : ∀ b o, s₂.heap.get? b = some o → b ≠ D ∧ b ≠ C := fun b o e => by have := Heap.lt_size e; rw [hD, hC]; exact ⟨Nat.ne_of_lt this, Nat.ne_of_lt (Nat.lt_succ_of_lt this)⟩
  have hi : ∀ b, s₂.heap.objs.size + 2 ≤ b → b ≠ D ∧ b ≠ C ∧ b ≠ I := fun b hb => by
    have := hfp I W.mem
    refine ⟨?_, ?_, ?_⟩
    · rw [hD]; exact Nat.ne_of_gt (Nat.lt_of_lt_of_le (by omega) hb)
    · rw [hC]; exact Nat.ne_of_gt (Nat.lt_of_lt_of_le (by omega) hb)
    · exact Nat.ne_of_gt (Nat.lt_of_lt_of_le (Nat.lt_of_lt_of_le this (by omega)) hb)
  refine codeAny_compLoop_tests
    (fun k s' => ∃ m' ys, ∃ vs : List Value, St vs.length s'.heap ∧ s'.heap.PlainList D ys ∧ s'.heap.Ns C m' ∧ (∀ j v, vs[j]? = some v → P j v) ∧ Made F (s₂.heap.objs.size + 2) s'.heap (vs.filter p) ys.toList ∧ vs.length ≤ n ∧ k = n + 1 - vs.length ∧
      (∀ b o, b ≠ I → s₂.heap.get? b = some o → s'.heap.get? b = some o) ∧ s'.gens = s.gens ∧ s'.drawn = s.drawn ∧ s'.os = s.os ∧ s₂.heap.objs.size + 2 ≤ s'.heap.objs.size ∧ (∀ k, g = some k → s'.heap.objs.size = s₂.heap.objs.size + 2 + k * ys.size)) ?_ (n + 1)
    ⟨m, #[], [], hst, hacc, hns, by simp, Made.nil, Nat.zero_le _, rfl, fun b o _ e => hold b o e, rfl, rfl, rfl, by rw [hsz]; exact Nat.le_refl _, fun k _ => by rw [hsz]; simp⟩ (by intro _; rfl)
  rintro k s1 ⟨m1, ys, vs, st1, pl1, ns1, hP, hF, hle, rfl, hk1, g1, d1, o1, z1, zz1⟩
  by_cases hlt : vs.length < n
  · refine W.item vs.length s1 _ _ hlt st1 fun v h2 tk2 hPv st2 sb2 => ?_
    refine wpAny_assign_Name (wpAny_storeName_local hx (ns1.sameBut sb2 hCI) (fun h3 ns3 sb3 => ?_) (by show (scope.kind == .class || (scope.kind == .module && _)) = false; rw [hkind]; rfl))
    have up3 : ∀ b o, b ≠ C → b ≠ I → s1.heap.get? b = some o → h3.get? b = some o := fun b o hbC hbI e => sb3.extBut b o hbC (sb2.extBut b o hbI e)
    have st3 : St (vs.length + 1) h3 := W.frame _ _ _ st2 fun b hb o e => sb3.extBut b o (fun h => hCf ((show b = C from h) ▸ hb)) e
    have z3 : h3.objs.size = s1.heap.objs.size := sb3.1.trans sb2.1
    refine wpAny_mono (T.tests C vs.length v _ _ _ (by rw [hC]; exact Nat.le_succ _) hPv ns3 (by simp) fun b o hbI e => up3 b o (lo b o e).2 hbI (hk1 b o hbI e)) (fun ok s4 h4 => ?_) fun _ _ e => e
    obtain ⟨rfl, nx4, z4⟩ := h4
    have st4 : St (vs.length + 1) s4.heap := W.frame _ _ _ st3 fun b _ o e => nx4.kp b o e
    have pl4 : s4.heap.PlainList D ys := pl1.at fun o e => nx4.kp _ o (up3 D o hDC hDI e)
    have ns4 := ns3.keeps nx4.kp
    have hk4 : ∀ b o, b ≠ I → s₂.heap.get? b = some o → s4.heap.get? b = some o := fun b o hbI e => nx4.kp _ _ (up3 b o (lo b o e).2 hbI (hk1 b o hbI e))
    have hF4 : Made F (s₂.heap.objs.size + 2) s4.heap (vs.filter p) ys.toList := hF.mono fun b o hb e => nx4.kp _ _ (up3 b o (hi b hb).2.1 (hi b hb).2.2 e)
    have hP' : ∀ j u, (vs ++ [v])[j]? = some u → P j u := fun j u hj => by
      rcases Nat.lt_trichotomy j vs.length with h | h | h
      · exact hP j u (by rwa [List.getElem?_append_left h] at hj)
      · subst h; simp at hj; subst hj; exact hPv
      · have hnone : (vs ++ [v])[j]? = none := List.getElem?_eq_none (by rw [List.length_append, List.length_singleton]; omega)
        rw [hnone] at hj; cases hj
    have z4' : s₂.heap.objs.size + 2 ≤ s4.heap.objs.size := by
      have hlt' : C < s4.heap.objs.size := ns4.lt
      rw [hC] at hlt'
      exact hlt'
    cases hpv : p v with
    | false =>
      simp only [Bool.false_eq_true, if_false]
      refine ⟨n + 1 - (vs.length + 1), by omega, _, ys, vs ++ [v], by simpa using st4, pl4, ns4, hP', ?_, (by rw [List.length_append, List.length_singleton]; exact hlt), (by rw [List.length_append, List.length_singleton]), hk4, nx4.gens.trans g1, nx4.dr.trans d1, nx4.os.trans o1, z4', fun k hk => ?_⟩
      · rw [List.filter_append]; simpa [hpv] using hF4
      · rw [z4 (by rw [hk]; rfl)]; exact z3.trans (zz1 k hk)
    | true =>
      simp only [if_true]
      refine wpAny_mono (T.elt C vs.length v s4 _ _ (by rw [hC]; exact Nat.le_succ _) hPv hpv ns4 (by simp) hk4 (fun k hk hall => by
        have e1 := hF.length
        rw [List.filter_eq_self.mpr fun u _ => hall u, Array.length_toList] at e1
        rw [z4 (by rw [hk]; rfl), ← e1]
        exact z3.trans (zz1 k hk))) (fun y s5 h5 => ?_) fun _ _ e => e
      obtain ⟨⟨f, hFy, hf⟩, nx5, z5⟩ := h5
      have hys : ys.size ≤ sizeLine := by
        have e1 := hF.length
        have e2 : (vs.filter p).length ≤ vs.length := List.length_filter_le _ _
        have e4 : ys.toList.length = ys.size := by simp
        rw [sizeLine_eq]; omega
      refine wpAny_list_append_plain (hsz := hys) (pl4.at fun o e => nx5.kp _ o e) fun h6 pl6 sb6 => ?_
      refine ⟨n + 1 - (vs.length + 1), by omega, _, ys.push y, vs ++ [v], ?_, pl6, (ns4.keeps nx5.kp).sameBut sb6 (Ne.symm hDC), hP', ?_, (by rw [List.length_append, List.length_singleton]; exact hlt), (by rw [List.length_append, List.length_singleton]),
        fun b o hbI e => sb6.extBut b o (lo b o e).1 (nx5.kp _ _ (hk4 b o hbI e)), nx5.gens.trans (nx4.gens.trans g1), nx5.dr.trans (nx4.dr.trans d1), nx5.os.trans (nx4.os.trans o1), ?_, fun k hk => ?_⟩
      · have := W.frame _ _ h6 st4 fun b hb o e => sb6.extBut b o (fun h => hDf (h ▸ hb)) (nx5.kp b o e)
        simpa using this
      · rw [List.filter_append]
        have hF6 : Made F (s₂.heap.objs.size + 2) h6 (vs.filter p) ys.toList := hF4.mono fun b o hb e => sb6.extBut b o (hi b hb).1 (nx5.kp _ _ e)
        have hq2 : ∀ q ∈ f, s₂.heap.objs.size + 2 ≤ q.1 := fun q hq => by have := (hf q hq).2; rw [hC] at this; exact this
        have := hF6.snoc hFy fun q hq => ⟨sb6.extBut _ _ (hi _ (hq2 q hq)).1 (hf q hq).1, hq2 q hq⟩
        simpa [hpv] using this
      · have hlt' : C < h6.objs.size := ((ns4.keeps nx5.kp).sameBut sb6 (Ne.symm hDC)).lt
        rw [hC] at hlt'
        exact hlt'
      · show h6.objs.size = _
        rw [sb6.1, z5 k hk, z4 (by rw [hk]; rfl), Array.size_push, Nat.mul_add, Nat.mul_one]
        have := zz1 k hk
        show h3.objs.size + k = _
        omega
  · have hin : vs.length = n := by omega
    refine W.done s1 _ _ (hin ▸ st1) fun h2 eb2 z2 => ?_
    refine hR _ m1 ys vs (ns1.extBut eb2 hCI) (pl1.at fun o e => eb2 _ o hDI e) hin hP (hF.mono fun b o hb e => eb2 _ _ (hi b hb).2.2 e) (fun b o hbI e => eb2 _ _ hbI (hk1 b o hbI e)) g1 d1 o1 fun k hk => ?_
    show h2.objs.size = _
    rw [z2, zz1 k hk]
    omega

theorem lc_y {w : World} {A : Around} {env : Env} {scope : Scope} {cl : List (Str × Addr)} {x : Str} {px pos : Pos} {iter elt : Expr} {ifs : List Expr} {Q E : Value → Shared → Prop} {s : Shared}
    (p : Value → Bool) (F : Value → Value → List (Addr × Obj) → Prop) (g : Option Nat)
    (hclos : closureFor scope env = pure cl) (hcell : scope.names.all (fun x => x.2 != .cell) = true) (hkind : scope.kind = .function) (hnames : scope.names.all (fun x => x.2 != .local || scope.names.lookup x.1 == some .local) = true) (hx : scope.names.lookup x = some .local)
    (h : wpAny (MM w) A (eval iter env) (fun xv s₁ => wpAny (MM w) A (pyIter xv) (fun it s₂ => ∃ I fp n P St, it = .ref I ∧ WalkZ w A I fp n P St ∧ n ≤ 10000 ∧ St 0 s₂.heap ∧ (∀ b ∈ fp, b < s₂.heap.objs.size) ∧
      TurnY w A env scope cl x ifs elt I P p F g s₂ ∧
      (∀ s' ys (vs : List Value), s'.heap.PlainList s₂.heap.objs.size ys → vs.length = n → (∀ j v, vs[j]? = some v → P j v) → Made F (s₂.heap.objs.size + 2) s'.heap (vs.filter p) ys.toList →
        (∀ b o, b ≠ I → s₂.heap.get? b = some o → s'.heap.get? b = some o) → s'.gens = s₂.gens → s'.drawn = s₂.drawn → s'.os = s₂.os → (∀ k, g = some k → s'.heap.objs.size = s₂.heap.objs.size + 4 + k * ys.size) → Q (.ref s₂.heap.objs.size) s')) E s₁) E s)
    (hs : ∀ x, foldedSetIterable iter env x = pure x := by intro _; kernel_rfl) :
    wpAny (MM w) A (eval (.ListComp elt [⟨.Name x px, iter, ifs, 0⟩] scope pos) env) Q E s := by
  have hc : ∀ y ∈ scope.names, y.2 ≠ .cell := fun x hx => by have := List.all_eq_true.mp hcell x hx; intro e; rw [e] at this; exact absurd this (by decide)
  have hn : ∀ y ∈ scope.names, y.2 = .local → scope.names.lookup y.1 = some .local := fun x hx e => by
    have := List.all_eq_true.mp hnames x hx
    rw [e] at this
    simpa using this
  rw [eval_ListComp]
  refine wpAny_comprehension_free (use := none) rfl hs hclos hkind hn (wpAny_mono h (fun xv s₁ h₁ => wpAny_mono h₁ (fun it s₂ h₂ => ?_) fun _ _ e => e) fun _ _ e => e)
  obtain ⟨I, fp, n, P, St, rfl, W, hsz, hst, hfp, T, hQ⟩ := h₂
  refine wpAny_newObj_type (wpAny_newFunctionEnv hc (by intro y hy; simp at hy) (fun h₁ hns₁ hsb₁ => ?_) hkind)
  dsimp only at hns₁ hsb₁ ⊢
  generalize hH2 : s₂.heap.push { cls := .type "list", dict := none, data := .seq ([] : List Value).toArray } = H2 at hns₁ hsb₁ ⊢
  have hC : H2.objs.size = s₂.heap.objs.size + 1 := by rw [← hH2, Heap.size_push]
  have hDC : s₂.heap.objs.size ≠ H2.objs.size := by rw [hC]; exact Nat.ne_of_lt (Nat.lt_succ_self _)
  have below : ∀ b, b < s₂.heap.objs.size → b ≠ H2.objs.size ∧ b ≠ s₂.heap.objs.size := fun b hb => ⟨by rw [hC]; exact Nat.ne_of_lt (Nat.lt_succ_of_lt hb), Nat.ne_of_lt hb⟩
  have old : ∀ b o, s₂.heap.get? b = some o → h₁.get? b = some o := fun b o e => hsb₁.extBut b o (below b (Heap.lt_size e)).1 (Heap.get?_push_of_some _ (hH2 ▸ Heap.get?_push_of_some _ e))
  have hacc : h₁.PlainList s₂.heap.objs.size #[] := ⟨_, hsb₁.extBut _ _ hDC (Heap.get?_push_of_some _ (hH2 ▸ Heap.get?_push_size _ rfl))⟩
  have hst₁ : St 0 h₁ := W.frame _ _ _ hst fun b _ o e => old b o e
  have z1 : h₁.objs.size = s₂.heap.objs.size + 2 := by rw [hsb₁.1, Heap.size_push, hC]
  have loop : ∀ s₃ : Shared, s₃ = { s₂ with heap := h₁, toks := s₂.toks + ([] : List (Str × Value)).length } →
      codeAny (MM w) A (.compLoop (.ListComp elt [⟨.Name x px, iter, ifs, 0⟩] scope pos) 0 (.ref I) (.ref s₂.heap.objs.size) (compEnvC scope cl H2.objs.size env))
        (compPost (MM w) A E none Q (.ref s₂.heap.objs.size) H2.objs.size) s₃ := by
    rintro s₃ rfl
    refine lc_loop W hsz (lookup_relabel_local hx) hkind hfp rfl hC T hst₁ hacc hns₁ z1 old fun s' m' ys vs ns pl hlen hP hF hk g1 d1 o1 zz => ⟨m', ns, fun h'' hs'' => ?_⟩
    have hi : ∀ b, s₂.heap.objs.size + 2 ≤ b → b ≠ H2.objs.size := fun b hb => by rw [hC]; exact Nat.ne_of_gt (Nat.lt_of_lt_of_le (by omega) hb)
    exact hQ { s' with heap := h'' } ys vs (pl.at fun o e => hs''.extBut _ _ hDC e) hlen hP (hF.mono fun b o hb e => hs''.extBut _ _ (hi b hb) e) (fun b o hb e => hs''.extBut _ _ (below b (Heap.lt_size e)).1 (hk b o hb e)) g1 d1 o1 fun k hk => by
      show h''.objs.size = _
      rw [hs''.1, zz k hk]
  exact codeAny_compStart_list (loop _ rfl) (W.self 0 _ _ _ hst₁ (loop _ rfl))
theorem lc_z {w : World} {A : Around} {env : Env} {scope : Scope} {cl : List (Str × Addr)} {x : Str} {px pos : Pos} {iter elt : Expr} {ifs : List Expr} {Q E : Value → Shared → Prop} {s : Shared}
    (p : Value → Bool) (F : Value → Value → List (Addr × Obj) → Prop) (g : Option Nat)
    (hclos : closureFor scope env = pure cl) (hcell : scope.names.all (fun x => x.2 != .cell) = true) (hkind : scope.kind = .function) (hnames : scope.names.all (fun x => x.2 != .local || scope.names.lookup x.1 == some .local) = true) (hx : scope.names.lookup x = some .local)
    (h : wpAny (MM w) A (eval iter env) (fun xv s₁ => wpAny (MM w) A (pyIter xv) (fun it s₂ => ∃ I fp n P St, it = .ref I ∧ WalkZ w A I fp n P St ∧ n ≤ 10000 ∧ St 0 s₂.heap ∧ (∀ b ∈ fp, b < s₂.heap.objs.size) ∧
      TurnZ w A env scope cl x ifs elt I P p F g s₂ ∧
      (∀ s' ys (vs : List Value), s'.heap.PlainList s₂.heap.objs.size ys → vs.length = n → (∀ j v, vs[j]? = some v → P j v) → Made F (s₂.heap.objs.size + 2) s'.heap (vs.filter p) ys.toList →
        (∀ b o, b ≠ I → s₂.heap.get? b = some o → s'.heap.get? b = some o) → s'.gens = s₂.gens → s'.drawn = s₂.drawn → s'.os = s₂.os → (∀ k, g = some k → s'.heap.objs.size = s₂.heap.objs.size + 4 + k * ys.size) → Q (.ref s₂.heap.objs.size) s')) E s₁) E s)
    (hs : ∀ x, foldedSetIterable iter env x = pure x := by intro _; kernel_rfl) :
    wpAny (MM w) A (eval (.ListComp elt [⟨.Name x px, iter, ifs, 0⟩] scope pos) env) Q E s := by
  refine lc_y p F g hclos hcell hkind hnames hx (wpAny_mono h (fun xv s₁ h₁ => wpAny_mono h₁ (fun it s₂ h₂ => ?_) fun _ _ e => e) fun _ _ e => e) hs
  obtain ⟨I, fp, n, P, St, e, W, hsz, hst, hfp, T, hQ⟩ := h₂
  exact ⟨I, fp, n, P, St, e, W, hsz, hst, hfp, T.y, hQ⟩
end Mine

set_option maxRecDepth 100000
set_option maxHeartbeats 1000000
namespace Mine
open PySem.Calls Builtin

/-! ## a comprehension whose own name is a cell -/
theorem newEnv_comp {M : Model} {A : Around} {E : Value → Shared → Prop} {s : Shared} {scope : Scope} {globals : Addr} {cl : List (Str × Addr)} {x qual : Str} {env : Env} {Q : Env → Shared → Prop}
    (hc : ∀ n, cellsFrom n scope.names cl = (x, n) :: cl) (hp : ∀ h, pushCells h scope.names = h.push { cls := .type "cell", data := .cell none })
    (hQ : Q { scope, locals := s.heap.objs.size, globals, cells := (x, s.heap.objs.size + 1) :: cl, qual, func := none, code := env.code, frame := env.frame, builtins := env.builtins }
      { s with heap := (s.heap.push { cls := .type "dict", data := .dict #[] }).push { cls := .type "cell", data := .cell none } }) :
    wpAny M A (newFunctionEnv scope globals cl [] qual none .none (some env)) Q E s := by
  simp only [newFunctionEnv, Option.isSome_some, if_true]
  refine wpAny_bind (wpAny_alloc ?_)
  refine wpAny_bind (wpAny_layCells _ (fun name kind cells => by cases hkc : kind == NameKind.cell <;> simp [hkc]) _ _ _ _ ?_)
  rw [show ({ s with heap := s.heap.push { cls := .type "dict", data := .dict #[] } } : Shared).heap.objs.size = s.heap.objs.size + 1 from Heap.size_push .., hc, hp]
  simp only [List.forIn_nil]
  exact wpAny_bind (wpAny_pure (wpAny_pure hQ))

theorem lc_cell {w : World} {A : Around} {env : Env} {scope : Scope} {cl : List (Str × Addr)} {x : Str} {px pos : Pos} {iter elt : Expr} {Q E : Value → Shared → Prop} {s : Shared} (F : Value → Value → Prop)
    (hclos : closureFor scope env = pure cl) (hkind : scope.kind = .function) (hnames : scope.names.all (fun x => x.2 != .local || scope.names.lookup x.1 == some .local) = true)
    (hc : ∀ n, cellsFrom n scope.names cl = (x, n) :: cl) (hp : ∀ h, pushCells h scope.names = h.push { cls := .type "cell", data := .cell none })
    (hx : ∀ C, (compEnvC scope ((x, C + 1) :: cl) C env).kindOf x = some .cell)
    (h : wpAny (MM w) A (eval iter env) (fun xv s₁ => wpAny (MM w) A (pyIter xv) (fun it s₂ => ∃ I fp n P St, it = .ref I ∧ WalkZ w A I fp n P St ∧ n ≤ 10000 ∧ St 0 s₂.heap ∧ (∀ b ∈ fp, b < s₂.heap.objs.size) ∧
      (∀ C i v s₃ E', s₂.heap.objs.size ≤ C → P i v → s₃.heap.IsCell (C + 1) (some v) → (∀ b o, b ≠ I → s₂.heap.get? b = some o → s₃.heap.get? b = some o) →
        wpAny (MM w) A (eval elt (compEnvC scope ((x, C + 1) :: cl) C env)) (fun y s₄ => F v y ∧ Nx s₃ s₄) E' s₃) ∧
      (∀ s' ys (vs : List Value), s'.heap.PlainList s₂.heap.objs.size ys → vs.length = n → (∀ j v, vs[j]? = some v → P j v) → Paired F vs ys.toList →
        (∀ b o, b ≠ I → s₂.heap.get? b = some o → s'.heap.get? b = some o) → s'.gens = s₂.gens → s'.drawn = s₂.drawn → s'.os = s₂.os → Q (.ref s₂.heap.objs.size) s')) E s₁) E s)
    (hs : ∀ x, foldedSetIterable iter env x = pure x := by intro _; kernel_rfl) :
    wpAny (MM w) A (eval (.ListComp elt [⟨.Name x px, iter, [], 0⟩] scope pos) env) Q E s := by
  have hn : ∀ y ∈ scope.names, y.2 = .local → scope.names.lookup y.1 = some .local := fun x hx e => by
    have := List.all_eq_true.mp hnames x hx
    rw [e] at this
    simpa using this
  rw [eval_ListComp]
  refine wpAny_comprehension_free (use := none) rfl hs hclos hkind hn (wpAny_mono h (fun xv s₁ h₁ => wpAny_mono h₁ (fun it s₂ h₂ => ?_) fun _ _ e => e) fun _ _ e => e)
  obtain ⟨I, fp, n, P, St, rfl, W, hsz, hst, hfp, T, hQ⟩ := h₂
  refine wpAny_newObj_type (newEnv_comp hc hp ?_)
  dsimp only
  generalize hH2 : s₂.heap.push { cls := .type "list", dict := none, data := .seq ([] : List Value).toArray } = H2
  have hC : H2.objs.size = s₂.heap.objs.size + 1 := by rw [← hH2, Heap.size_push]
  generalize hD : s₂.heap.objs.size = D at *
  generalize hCC : H2.objs.size = C at *
  have hDI : D ≠ I := Nat.ne_of_gt (hfp I W.mem)
  have hCI : C ≠ I := by rw [hC]; exact Nat.ne_of_gt (Nat.lt_succ_of_lt (hfp I W.mem))
  have hcI : C + 1 ≠ I := by rw [hC]; exact Nat.ne_of_gt (Nat.lt_succ_of_lt (Nat.lt_succ_of_lt (hfp I W.mem)))
  have hDC : D ≠ C := by rw [hC]; exact Nat.ne_of_lt (Nat.lt_succ_self _)
  have hDc : D ≠ C + 1 := by rw [hC]; exact Nat.ne_of_lt (Nat.lt_succ_of_lt (Nat.lt_succ_self _))
  have hCc : C ≠ C + 1 := Nat.ne_of_lt (Nat.lt_succ_self _)
  have hDf : D ∉ fp := fun h => Nat.lt_irrefl _ (hfp _ h)
  have hcf : C + 1 ∉ fp := fun h => by have := hfp _ h; rw [hC] at this; exact absurd this (Nat.not_lt.mpr (Nat.le_trans (Nat.le_succ _) (Nat.le_succ _)))
  have lo : ∀ b o, s₂.heap.get? b = some o → b ≠ D ∧ b ≠ C ∧ b ≠ C + 1 := fun b o e => by
    have := Heap.lt_size e
    rw [hD] at this
    rw [hC]
    exact ⟨Nat.ne_of_lt this, Nat.ne_of_lt (Nat.lt_succ_of_lt this), Nat.ne_of_lt (Nat.lt_succ_of_lt (Nat.lt_succ_of_lt this))⟩
  generalize hH3 : (H2.push { cls := .type "dict", data := .dict #[] }).push { cls := .type "cell", data := .cell none } = H3
  have k3 : Kp H2 H3 := fun b o e => hH3 ▸ Heap.get?_push_of_some _ (Heap.get?_push_of_some _ e)
  have old : ∀ b o, s₂.heap.get? b = some o → H3.get? b = some o := fun b o e => k3 _ _ (hH2 ▸ Heap.get?_push_of_some _ e)
  have hacc : H3.PlainList D #[] := ⟨_, k3 _ _ (hH2 ▸ hD ▸ Heap.get?_push_size _ rfl)⟩
  have hst₁ : St 0 H3 := W.frame _ _ _ hst fun b _ o e => old b o e
  have hns : H3.Ns C (fun _ => none) := by rw [← hH3, ← hCC]; exact (Heap.Ns.new H2 (.type "dict")).push _
  have hcl : H3.IsCell (C + 1) none := by
    have := Heap.get?_push_size (H2.push { cls := .type "dict", data := .dict #[] }) (o := { cls := .type "cell", data := .cell none }) rfl
    rw [Heap.size_push, hCC, hH3] at this
    exact ⟨_, this, rfl⟩
  have loop : codeAny (MM w) A (.compLoop (.ListComp elt [⟨.Name x px, iter, [], 0⟩] scope pos) 0 (.ref I) (.ref D) (compEnvC scope ((x, C + 1) :: cl) C env))
        (compPost (MM w) A E none Q (.ref D) C) { s₂ with heap := H3 } := by
    refine codeAny_compLoop_tests
      (fun k s' => ∃ m' c ys, ∃ vs : List Value, St vs.length s'.heap ∧ s'.heap.PlainList D ys ∧ s'.heap.Ns C m' ∧ s'.heap.IsCell (C + 1) c ∧ (∀ j v, vs[j]? = some v → P j v) ∧ Paired F vs ys.toList ∧ vs.length ≤ n ∧ k = n + 1 - vs.length ∧
        (∀ b o, b ≠ I → s₂.heap.get? b = some o → s'.heap.get? b = some o) ∧ s'.gens = s₂.gens ∧ s'.drawn = s₂.drawn ∧ s'.os = s₂.os) ?_ (n + 1)
      ⟨_, none, #[], [], hst₁, hacc, hns, hcl, by simp, Paired.nil, Nat.zero_le _, rfl, fun b o _ e => old b o e, rfl, rfl, rfl⟩ (by intro _; rfl)
    rintro k s1 ⟨m1, c1, ys, vs, st1, pl1, ns1, cl1, hP, hF, hle, rfl, hk1, g1, d1, o1⟩
    by_cases hlt : vs.length < n
    · refine W.item vs.length s1 _ _ hlt st1 fun v h2 tk2 hPv st2 sb2 => ?_
      refine wpAny_assign_Name (wpAny_storeName_cell (c := C + 1) hkind (hx C) (by show List.lookup x ((x, C + 1) :: cl) = _; simp) (cl1.sameBut sb2 hcI) (fun h3 cl3 sb3 => ?_))
      have up3 : ∀ b o, b ≠ C + 1 → b ≠ I → s1.heap.get? b = some o → h3.get? b = some o := fun b o hbC hbI e => sb3.extBut b o hbC (sb2.extBut b o hbI e)
      have st3 : St (vs.length + 1) h3 := W.frame _ _ _ st2 fun b hb o e => sb3.extBut b o (fun h => hcf (h ▸ hb)) e
      refine wpAny_tests_nil ?_
      simp only [if_true]
      have hk3 : ∀ b o, b ≠ I → s₂.heap.get? b = some o → h3.get? b = some o := fun b o hbI e => up3 b o (lo b o e).2.2 hbI (hk1 b o hbI e)
      refine wpAny_mono (T C vs.length v _ _ (by rw [hC]; exact Nat.le_succ _) hPv cl3 hk3) (fun y s5 h5 => ?_) fun _ _ e => e
      obtain ⟨hFy, nx5⟩ := h5
      have hys : ys.size ≤ sizeLine := by
        have e1 := hF.length
        have e4 : ys.toList.length = ys.size := by simp
        rw [sizeLine_eq]; omega
      have pl5 : s5.heap.PlainList D ys := pl1.at fun o e => nx5.kp _ o (up3 D o hDc hDI e)
      have ns5 : s5.heap.Ns C m1 := ns1.at' fun o e => nx5.kp _ o (up3 C o hCc hCI e)
      have st5 : St (vs.length + 1) s5.heap := W.frame _ _ _ st3 fun b _ o e => nx5.kp b o e
      refine wpAny_list_append_plain (hsz := hys) pl5 fun h6 pl6 sb6 => ?_
      refine ⟨n + 1 - (vs.length + 1), by omega, m1, some v, ys.push y, vs ++ [v], ?_, pl6, ns5.sameBut sb6 (Ne.symm hDC), (cl3.keeps nx5.kp).sameBut sb6 (Ne.symm hDc), fun j u hj => ?_, ?_, (by rw [List.length_append, List.length_singleton]; exact hlt), (by rw [List.length_append, List.length_singleton]),
        fun b o hbI e => sb6.extBut b o (lo b o e).1 (nx5.kp _ _ (hk3 b o hbI e)), nx5.gens.trans g1, nx5.dr.trans d1, nx5.os.trans o1⟩
      · have := W.frame _ _ h6 st5 fun b hb o e => sb6.extBut b o (fun h => hDf (h ▸ hb)) e
        simpa using this
      · rcases Nat.lt_trichotomy j vs.length with h | h | h
        · exact hP j u (by rwa [List.getElem?_append_left h] at hj)
        · subst h; simp at hj; subst hj; exact hPv
        · have hnone : (vs ++ [v])[j]? = none := List.getElem?_eq_none (by rw [List.length_append, List.length_singleton]; omega)
          rw [hnone] at hj; cases hj
      · simpa using hF.snoc hFy
    · have hin : vs.length = n := by omega
      refine W.done s1 _ _ (hin ▸ st1) fun h2 eb2 z2 => ?_
      refine ⟨m1, ns1.extBut eb2 hCI, fun h'' hs'' => ?_⟩
      exact hQ { s1 with heap := h'' } ys vs (pl1.at fun o e => hs''.extBut _ _ hDC (eb2 _ o hDI e)) hin hP hF (fun b o hb e => hs''.extBut _ _ (lo b o e).2.1 (eb2 _ _ hb (hk1 b o hb e))) g1 d1 o1
  exact codeAny_compStart_list loop (W.self 0 _ _ _ hst₁ loop)
end Mine

set_option maxRecDepth 100000
set_option maxHeartbeats 1000000
namespace Mine
open PySem.Calls Builtin

/-! ## range(n) and its iterator -/
theorem range_iter {w : World} {A : Around} {s : Shared} {E : Value → Shared → Prop} {env : Env} {p1 p2 p3 : Pos} {k : Nat} {n : Nat} {Q : Value → Shared → Prop} (X : (KK w).In s.heap)
    (hsm : Builtin.Range.small 0 n 1 = true) (hrs : Builtin.Range.rangeSize 0 n 1 = n) (hg : env.globals = 3) (hb : env.builtins = 0) (hk : env.scope.kind = .function) (hx : env.kindOf "range" = some .globalImplicit)
    (hQ : ∀ h' tk, h'.objs.size = s.heap.objs.size + 2 → Kp s.heap h' → IsRangeIter h' (s.heap.objs.size + 1) ((0 : Nat) : Int) ((n : Int) - ((0 : Nat) : Int)) 1 → Q (.ref (s.heap.objs.size + 1)) { s with heap := h', toks := tk })
    (he : eval (.Call (.Name "range" p1) [.Constant (.int n) k p2] [] p3) env = (do callWith p3 (← eval (.Name "range" p1) env) [] (backTo p3 (starEach [.Constant (.int n) k p2] env)) (backToKw p3 (keywordEach [] env))) := by kernel_rfl)
    (he2 : starEach [.Constant (.int n) k p2] env = (false, eval (.Constant (.int n) k p2) env) :: starEach [] env := by kernel_rfl) (he3 : (backTo p3 (starEach [] env)).any (·.1) = false := by kernel_rfl) :
    wpAny (MM w) A (eval (.Call (.Name "range" p1) [.Constant (.int n) k p2] [] p3) env) (fun xv s₁ => wpAny (MM w) A (pyIter xv) Q E s₁) E s := by
  refine Call_ ?_ he
  refine nm_blt (w := w) X (v := .type "range") (by kernel_rfl) (by kernel_rfl) ?_ hg hb hk hx
  refine PyProof.Rows.callWith_type1 ?_ he2 he3
  refine args_cons ?_ he2
  refine wpAny_Constant_int ?_
  refine args_nil ?_
  refine call_range_1 ?_
  refine wpAny_pyIter_range (IsRange.new _ _ _ _ _ _ _) hsm ?_
  dsimp only
  rw [Heap.size_push]
  refine hQ _ _ (by rw [Heap.size_push, Heap.size_push]) (fun b o e => Heap.get?_push_of_some _ (Heap.get?_push_of_some _ e)) ?_
  have := Heap.get?_push_size (s.heap.push { cls := .type "range", data := .fields #[.int 0 (s.toks + 1), .int n s.toks, .int 1 (s.toks + 1 + 1)] }) (o := { cls := .type "range_iterator", data := .fields #[rawInt 0, rawInt (Builtin.Range.rangeSize 0 n 1), rawInt 1] }) rfl
  rw [Heap.size_push, hrs] at this
  rw [hrs]
  simpa using this

/-! ## a comprehension with two clauses -/
abbrev two (elt i0 i1 t : Expr) (x0 x1 : Str) (p0 p1 : Pos) (scope : Scope) (pos : Pos) : Expr := .ListComp elt [⟨.Name x0 p0, i0, [], 0⟩, ⟨.Name x1 p1, i1, [t], 0⟩] scope pos
theorem turn_two0 (elt i0 i1 t : Expr) (x0 x1 : Str) (p0 p1 : Pos) (scope : Scope) (pos : Pos) (it acc : Value) (env : Env) :
    compTurn (two elt i0 i1 t x0 x1 p0 p1 scope pos) 0 it acc env = (do
      standAt i0.pos
      match ← pyNext it with
      | none => pure (.done .next)
      | some v =>
        letOwnedTupleGo (.Name x0 p0) it v
        assign (.Name x0 p0) env v
        let x ← eval i1 env
        standAt i1.pos
        let x ← foldedSetIterable i1 env x
        let _ ← runOwn (.compStart (two elt i0 i1 t x0 x1 p0 p1 scope pos) 1 (← holding [x] (pyIter x)) acc env) env
        again (.compLoop (two elt i0 i1 t x0 x1 p0 p1 scope pos) 0 it acc env)) := by rfl
theorem turn_two1 (elt i0 i1 t : Expr) (x0 x1 : Str) (p0 p1 : Pos) (scope : Scope) (pos : Pos) (it acc : Value) (env : Env) :
    compTurn (two elt i0 i1 t x0 x1 p0 p1 scope pos) 1 it acc env = (do
      standAt i1.pos
      match ← pyNext it with
      | none => pure (.done .next)
      | some v =>
        letOwnedTupleGo (.Name x1 p1) it v
        assign (.Name x1 p1) env v
        let mut ok := true
        for c in [t] do
          if ok then ok ← isTrue c env (eval c env)
        if ok then
          (do let _ ← call (.builtin "list.append") [acc, ← eval elt env])
        again (.compLoop (two elt i0 i1 t x0 x1 p0 p1 scope pos) 1 it acc env)) := by rfl

section
variable {w : World} {A : Around} {R : Result → Shared → Prop} {s : Shared} {elt i0 i1 t : Expr} {x0 x1 : Str} {p0 p1 : Pos} {scope : Scope} {pos : Pos} {it acc : Value} {env : Env}
theorem start_two1 (h0 : codeAny (MM w) A (.compLoop (two elt i0 i1 t x0 x1 p0 p1 scope pos) 1 it acc env) R s)
    (h : wpAny (MM w) A (pyIter it) (fun it' s' => codeAny (MM w) A (.compLoop (two elt i0 i1 t x0 x1 p0 p1 scope pos) 1 it' acc env) R s') (notedBy (MM w) A env fun x s' => R (.error x) s') s) :
    codeAny (MM w) A (.compStart (two elt i0 i1 t x0 x1 p0 p1 scope pos) 1 it acc env) R s := by
  refine codeAny_of_tree ?_
  show wpAny _ _ ((compStart (two elt i0 i1 t x0 x1 p0 p1 scope pos) 1 it acc env).onRaise (fun x => do noteFrame x env; standAt theWindowsPlace)) _ _ s
  refine wpAny_notedAt ?_
  unfold compStart
  show wpAny _ _ (ask >>= _) _ _ s
  refine wpAny_bind (wpAny_askSetting (wpAny_ite ?_))
  split
  · first
      | exact wpAny_bind (wpAny_pure (wpAny_pure (And.intro rfl h0)))
      | exact wpAny_pure (And.intro rfl h0)
  · first
      | exact wpAny_bind (wpAny_rule (wpAny_bind (wpAny_standAt (wpAny_bind (wpAny_mono h (fun it' s' h' => wpAny_pure (And.intro rfl h')) fun _ _ x => x)))))
      | (refine wpAny_bind (wpAny_rule ?_); show wpAny _ _ (standAt i1.pos >>= _) _ _ s; exact wpAny_bind (wpAny_standAt (wpAny_bind (wpAny_mono h (fun it' s' h' => wpAny_pure (And.intro rfl h')) fun _ _ x => x))))
theorem loop_two1 (I : Nat → Shared → Prop)
    (turn : ∀ n s, I n s → wpAny (MM w) A (pyNext it) (fun r s₁ => match r with
      | none => R (.ok .next) s₁
      | some v => wpAny (MM w) A (assign (.Name x1 p1) env v) (fun _ s₂ => wpAny (MM w) A (isTrue t env (eval t env)) (fun ok s₃ =>
            if ok = true then wpAny (MM w) A (eval elt env) (fun x s₄ =>
              wpAny (MM w) A (call (.builtin "list.append") [acc, x]) (fun _ s₅ => ∃ m, m < n ∧ I m s₅) (notedBy (MM w) A env fun e s' => R (.error e) s') s₄) (notedBy (MM w) A env fun e s' => R (.error e) s') s₃
            else ∃ m, m < n ∧ I m s₃) (notedBy (MM w) A env fun e s' => R (.error e) s') s₂) (notedBy (MM w) A env fun e s' => R (.error e) s') s₁) (notedBy (MM w) A env fun e s' => R (.error e) s') s)
    (n : Nat) (h : I n s) : codeAny (MM w) A (.compLoop (two elt i0 i1 t x0 x1 p0 p1 scope pos) 1 it acc env) R s := by
  refine codeAny_loop rfl I (fun n s hI => ?_) n h
  show wpAny _ A ((compTurn (two elt i0 i1 t x0 x1 p0 p1 scope pos) 1 it acc env).onRaise (fun x => do noteFrame x env; theTreesLotGoes x)) _ _ s
  refine wpAny_noted ?_
  rw [turn_two1]
  refine wpAny_bind (wpAny_standAt (wpAny_bind (wpAny_mono (turn n s hI) (fun r s₁ h₁ => ?_) fun _ _ h' => h')))
  cases r with
  | none => exact wpAny_pure h₁
  | some v =>
    refine wpAny_bind (wpAny_of_eq (show letOwnedTupleGo (.Name x1 p1) it v = pure () from rfl) ?_)
    refine wpAny_bind (wpAny_mono h₁ (fun _ s₂ h₂ => wpAny_bind (wpAny_mono (wpAny_tests_one h₂) (fun ok s₃ h₃ => ?_) fun _ _ h' => h')) fun _ _ h' => h')
    cases ok with
    | false => exact wpAny_pure ⟨rfl, h₃⟩
    | true =>
      exact wpAny_bind (wpAny_bind (wpAny_mono h₃ (fun x s₄ h₄ => wpAny_bind (wpAny_mono h₄ (fun _ s₅ h₅ => wpAny_pure (wpAny_pure ⟨rfl, h₅⟩)) fun _ _ h' => h')) fun _ _ h' => h'))
theorem loop_two0 (I : Nat → Shared → Prop) (hs : ∀ x, foldedSetIterable i1 env x = pure x)
    (turn : ∀ n s, I n s → wpAny (MM w) A (pyNext it) (fun r s₁ => match r with
      | none => R (.ok .next) s₁
      | some v => wpAny (MM w) A (assign (.Name x0 p0) env v) (fun _ s₂ => wpAny (MM w) A (eval i1 env) (fun xv s₃ => wpAny (MM w) A (pyIter xv) (fun it' s₄ =>
            codeAny (MM w) A (.compStart (two elt i0 i1 t x0 x1 p0 p1 scope pos) 1 it' acc env) (fun r s' => match r with | .ok _ => ∃ m, m < n ∧ I m s' | .error e => cameBackBy (MM w) A env (notedBy (MM w) A env fun e s' => R (.error e) s') e s') s₄)
            (notedBy (MM w) A env fun e s' => R (.error e) s') s₃) (notedBy (MM w) A env fun e s' => R (.error e) s') s₂) (notedBy (MM w) A env fun e s' => R (.error e) s') s₁) (notedBy (MM w) A env fun e s' => R (.error e) s') s)
    (n : Nat) (h : I n s) : codeAny (MM w) A (.compLoop (two elt i0 i1 t x0 x1 p0 p1 scope pos) 0 it acc env) R s := by
  refine codeAny_loop rfl I (fun n s hI => ?_) n h
  show wpAny _ A ((compTurn (two elt i0 i1 t x0 x1 p0 p1 scope pos) 0 it acc env).onRaise (fun x => do noteFrame x env; theTreesLotGoes x)) _ _ s
  refine wpAny_noted ?_
  rw [turn_two0]
  refine wpAny_bind (wpAny_standAt (wpAny_bind (wpAny_mono (turn n s hI) (fun r s₁ h₁ => ?_) fun _ _ h' => h')))
  cases r with
  | none => exact wpAny_pure h₁
  | some v =>
    refine wpAny_bind (wpAny_of_eq (show letOwnedTupleGo (.Name x0 p0) it v = pure () from rfl) ?_)
    refine wpAny_bind (wpAny_mono h₁ (fun _ s₂ h₂ => wpAny_bind (wpAny_mono h₂ (fun xv s₃ h₃ => ?_) fun _ _ h' => h')) fun _ _ h' => h')
    refine wpAny_bind (wpAny_standAt (wpAny_bind (wpAny_of_eq (hs xv) ?_)))
    refine wpAny_bind (wpAny_holding (wpAny_mono h₃ (fun it' s₄ h₄ => ?_) fun _ _ h' => h'))
    exact wpAny_bind (wpAny_runOwn (codeAny_mono h₄ fun r s' hr => by cases r with | ok f => exact wpAny_pure ⟨rfl, hr⟩ | error e => exact hr))
end

abbrev Ints (l : List Nat) (ys : List Value) : Prop := Paired (fun (j : Nat) (y : Value) => ∃ t, y = Value.int j t) l ys

theorem two_core {w : World} {A : Around} {env : Env} {scope : Scope} {cl : List (Str × Addr)} {x0 x1 : Str} {p0 p1 ep pos : Pos} {i0 i1 t : Expr} {Q E : Value → Shared → Prop} {s : Shared} (n0 n1 : Nat) (p : Nat → Nat → Bool) (hA : A.handled = none) (h5 : n0 * n1 ≤ 1000)
    (hclos : closureFor scope env = pure cl) (hcell : scope.names.all (fun x => x.2 != .cell) = true) (hkind : scope.kind = .function) (hnames : scope.names.all (fun x => x.2 != .local || scope.names.lookup x.1 == some .local) = true)
    (hx0 : scope.names.lookup x0 = some .local) (hx1 : scope.names.lookup x1 = some .local) (hne : x0 ≠ x1) (hdb : (x1 == ("__debug__" : Str)) = false)
    (hi0 : ∀ Q', (∀ h' tk, h'.objs.size = s.heap.objs.size + 2 → Kp s.heap h' → IsRangeIter h' (s.heap.objs.size + 1) ((0 : Nat) : Int) ((n0 : Int) - ((0 : Nat) : Int)) 1 → Q' (.ref (s.heap.objs.size + 1)) { s with heap := h', toks := tk }) →
      wpAny (MM w) A (eval i0 env) (fun xv s₁ => wpAny (MM w) A (pyIter xv) Q' E s₁) E s)
    (hi1 : ∀ C s₃ E' Q', Kp s.heap s₃.heap → (∀ h' tk, h'.objs.size = s₃.heap.objs.size + 2 → Kp s₃.heap h' → IsRangeIter h' (s₃.heap.objs.size + 1) ((0 : Nat) : Int) ((n1 : Int) - ((0 : Nat) : Int)) 1 → Q' (.ref (s₃.heap.objs.size + 1)) { s₃ with heap := h', toks := tk }) →
      wpAny (MM w) A (eval i1 (compEnvC scope cl C env)) (fun xv s₁ => wpAny (MM w) A (pyIter xv) Q' E' s₁) E' s₃)
    (hs1 : ∀ C x, foldedSetIterable i1 (compEnvC scope cl C env) x = pure x)
    (ht : ∀ C i j ti tj s₃ m₃ E', i < n0 → j < n1 → Kp s.heap s₃.heap → s₃.heap.Ns C m₃ → m₃ x0 = some (.int (i : Nat) ti) → m₃ x1 = some (.int (j : Nat) tj) →
      wpAny (MM w) A (isTrue t (compEnvC scope cl C env) (eval t (compEnvC scope cl C env))) (fun ok s₄ => ok = p i j ∧ Nx s₃ s₄) E' s₃)
    {use : Option (Value → Sem Unit)} {cpos : Pos}
    (hQ : ∀ D C m s' ys, Nx s s' → s'.heap.PlainList D ys → Ints ((List.range n0).flatMap fun i => (List.range n1).filter (p i)) ys.toList → s'.heap.Ns C m → D ≠ C → (∀ b o, s.heap.get? b = some o → b ≠ D ∧ b ≠ C) → compPost (MM w) A E use Q (.ref D) C (.ok .next) s')
    (hs : ∀ x, foldedSetIterable i0 env x = pure x := by intro _; kernel_rfl) :
    wpAny (MM w) A (comprehension (two (.Name x1 ep) i0 i1 t x0 x1 p0 p1 scope pos) scope env cpos (newList []) false (eval i0 env) use) Q E s := by
  have hc : ∀ y ∈ scope.names, y.2 ≠ .cell := fun x hx => by have := List.all_eq_true.mp hcell x hx; intro e; rw [e] at this; exact absurd this (by decide)
  have hn : ∀ y ∈ scope.names, y.2 = .local → scope.names.lookup y.1 = some .local := fun x hx e => by
    have := List.all_eq_true.mp hnames x hx
    rw [e] at this
    simpa using this
  have hpk : ∀ C, ((compEnvC scope cl C env).scope.kind == .class || ((compEnvC scope cl C env).scope.kind == .module && (compEnvC scope cl C env).locals != (compEnvC scope cl C env).globals)) = false := fun C => by
    show (scope.kind == .class || (scope.kind == .module && _)) = false; rw [hkind]; rfl
  refine wpAny_comprehension_free (use := use) rfl hs hclos hkind hn (hi0 _ fun h' tk hz' k' ri => ?_)
  generalize hI : s.heap.objs.size + 1 = I at *
  have hIn : s.heap.get? I = none := Heap.get?_none_of_le (by rw [← hI]; exact Nat.le_succ _)
  refine wpAny_newObj_type (wpAny_newFunctionEnv hc (by intro y hy; simp at hy) (fun h₁ hns₁ hsb₁ => ?_) hkind)
  dsimp only at hns₁ hsb₁ ⊢
  generalize hH2 : h'.push { cls := .type "list", dict := none, data := .seq ([] : List Value).toArray } = H2 at hns₁ hsb₁ ⊢
  have hC : H2.objs.size = h'.objs.size + 1 := by rw [← hH2, Heap.size_push]
  generalize hD : h'.objs.size = D at *
  generalize hCC : H2.objs.size = C at *
  have hDI : D ≠ I := by rw [hz', ← hI]; exact Nat.ne_of_gt (Nat.lt_succ_self _)
  have hCI : C ≠ I := by rw [hC, hz', ← hI]; exact Nat.ne_of_gt (Nat.lt_succ_of_lt (Nat.lt_succ_self _))
  have hDC : D ≠ C := by rw [hC]; exact Nat.ne_of_lt (Nat.lt_succ_self _)
  have lo : ∀ b o, s.heap.get? b = some o → b ≠ D ∧ b ≠ C ∧ b ≠ I := fun b o e => by
    have := Heap.lt_size e
    refine ⟨?_, ?_, by rintro rfl; rw [hIn] at e; cases e⟩
    · rw [hz']; exact Nat.ne_of_lt (Nat.lt_of_lt_of_le this (Nat.le_add_right _ _))
    · rw [hC, hz']; exact Nat.ne_of_lt (Nat.lt_of_lt_of_le this (Nat.le_add_right _ 3))
  have low : ∀ b, b < D → b ≠ C := fun b hb => by rw [hC]; exact Nat.ne_of_lt (Nat.lt_succ_of_lt hb)
  have old : ∀ b o, h'.get? b = some o → h₁.get? b = some o := fun b o e => hsb₁.extBut b o (low b (hD ▸ Heap.lt_size e)) (Heap.get?_push_of_some _ (hH2 ▸ Heap.get?_push_of_some _ e))
  have hacc : h₁.PlainList D #[] := ⟨_, hsb₁.extBut _ _ hDC (Heap.get?_push_of_some _ (hH2 ▸ hD ▸ Heap.get?_push_size _ rfl))⟩
  have k1 : Kp s.heap h₁ := fun b o e => old _ _ (k' _ _ e)
  have ri1 : IsRangeIter h₁ I ((0 : Nat) : Int) ((n0 : Int) - ((0 : Nat) : Int)) 1 := old _ _ ri
  have W0 := WalkZ.range (w := w) (A := A) hA I n0
  have loop : ∀ s₃ : Shared, s₃ = { s with heap := h₁, toks := tk + ([] : List (Str × Value)).length } →
      codeAny (MM w) A (.compLoop (two (.Name x1 ep) i0 i1 t x0 x1 p0 p1 scope pos) 0 (.ref I) (.ref D) (compEnvC scope cl C env)) (compPost (MM w) A E use Q (.ref D) C) s₃ := by
    rintro s₃ rfl
    refine loop_two0 (fun k s' => ∃ i m' ys, i ≤ n0 ∧ k = n0 + 1 - i ∧ IsRangeIter s'.heap I (i : Nat) ((n0 : Int) - (i : Nat)) 1 ∧ s'.heap.PlainList D ys ∧ s'.heap.Ns C m' ∧ Ints ((List.range i).flatMap fun i => (List.range n1).filter (p i)) ys.toList ∧ ys.size ≤ i * n1 ∧ Nx s s') (hs1 C) ?_ (n0 + 1)
      ⟨0, _, #[], Nat.zero_le _, rfl, ri1, hacc, hns₁, Paired.nil, by simp, ⟨k1, rfl, rfl, rfl⟩⟩
    rintro k s1 ⟨i, m1, ys, hi, rfl, r1, pl1, ns1, in1, z1, nx1⟩
    by_cases hlt : i < n0
    · refine W0.item i s1 _ _ hlt r1 fun v h2 tk2 hPv st2 sb2 => ?_
      obtain ⟨_, ti, rfl⟩ := hPv
      refine wpAny_assign_Name (wpAny_storeName_local (lookup_relabel_local hx0) (ns1.sameBut sb2 hCI) (fun h3 ns3 sb3 => ?_) (hpk C))
      have nx3 : Kp s.heap h3 := fun b o e => sb3.extBut b o (lo b o e).2.1 (sb2.extBut b o (lo b o e).2.2 (nx1.kp _ _ e))
      have st3 : IsRangeIter h3 I ((i + 1 : Nat) : Int) ((n0 : Int) - ((i + 1 : Nat) : Int)) 1 := sb3.extBut _ _ (Ne.symm hCI) st2
      have pl3 : h3.PlainList D ys := pl1.at fun o e => sb3.extBut _ _ hDC (sb2.extBut _ _ hDI e)
      refine hi1 C _ _ _ nx3 fun h4 tk4 z4 k4 ri4 => ?_
      dsimp only at z4 k4 ri4 ⊢
      generalize hI' : h3.objs.size + 1 = I' at *
      have hI'3 : h3.get? I' = none := Heap.get?_none_of_le (by rw [← hI']; exact Nat.le_succ _)
      have nI : ∀ b o, h3.get? b = some o → b ≠ I' := fun b o e => by rintro rfl; rw [hI'3] at e; cases e
      have hCI' : C ≠ I' := by obtain ⟨o, _, _, e, _⟩ := ns3; exact nI _ _ e
      have hDI' : D ≠ I' := by obtain ⟨q, e⟩ := pl3; exact nI _ _ e
      have hII' : I ≠ I' := nI _ _ st3
      have W1 := WalkZ.range (w := w) (A := A) hA I' n1
      have loop1 : ∀ s₅ : Shared, s₅ = { s1 with heap := h4, toks := tk4 } → codeAny (MM w) A (.compLoop (two (.Name x1 ep) i0 i1 t x0 x1 p0 p1 scope pos) 1 (.ref I') (.ref D) (compEnvC scope cl C env))
          (fun r s' => match r with | .ok _ => (∃ m, m < n0 + 1 - i ∧ ∃ i m' ys, i ≤ n0 ∧ m = n0 + 1 - i ∧ IsRangeIter s'.heap I (i : Nat) ((n0 : Int) - (i : Nat)) 1 ∧ s'.heap.PlainList D ys ∧ s'.heap.Ns C m' ∧ Ints ((List.range i).flatMap fun i => (List.range n1).filter (p i)) ys.toList ∧ ys.size ≤ i * n1 ∧ Nx s s') | .error e => cameBackBy (MM w) A (compEnvC scope cl C env) (notedBy (MM w) A (compEnvC scope cl C env) fun e s' => compPost (MM w) A E use Q (.ref D) C (.error e) s') e s') s₅ := by
        rintro s₅ rfl
        refine loop_two1 (fun k s' => ∃ j m' ys', j ≤ n1 ∧ k = n1 + 1 - j ∧ IsRangeIter s'.heap I' (j : Nat) ((n1 : Int) - (j : Nat)) 1 ∧ IsRangeIter s'.heap I ((i + 1 : Nat) : Int) ((n0 : Int) - ((i + 1 : Nat) : Int)) 1 ∧ s'.heap.PlainList D ys' ∧ s'.heap.Ns C m' ∧ m' x0 = some (.int (i : Nat) ti) ∧
          Ints (((List.range i).flatMap fun i => (List.range n1).filter (p i)) ++ (List.range j).filter (p i)) ys'.toList ∧ ys'.size ≤ i * n1 + j ∧ Nx s s') ?_ (n1 + 1)
          ⟨0, _, ys, Nat.zero_le _, rfl, ri4, k4 _ _ st3, pl3.at fun o e => k4 _ _ e, ns3.keeps k4, by rw [if_pos rfl], by simpa using in1, z1, ⟨nx3.trans k4, nx1.gens, nx1.dr, nx1.os⟩⟩
        rintro k6 s6 ⟨j, m6, ys6, hj, rfl, rj6, ri6, pl6, ns6, e6, in6, z6, nx6⟩
        by_cases hlt6 : j < n1
        · refine W1.item j s6 _ _ hlt6 rj6 fun v h7 tk7 hPv7 st7 sb7 => ?_
          obtain ⟨_, tj, rfl⟩ := hPv7
          refine wpAny_assign_Name (wpAny_storeName_local (lookup_relabel_local hx1) (ns6.sameBut sb7 hCI') (fun h8 ns8 sb8 => ?_) (hpk C))
          have nx8 : Kp s.heap h8 := fun b o e => sb8.extBut b o (lo b o e).2.1 (sb7.extBut b o (nI _ _ (nx3 _ _ e)) (nx6.kp _ _ e))
          refine wpAny_mono (ht C i j ti tj _ _ _ hlt hlt6 nx8 ns8 (by rw [if_neg hne]; exact e6) (by rw [if_pos rfl])) (fun ok s9 h9 => ?_) fun _ _ e => e
          obtain ⟨rfl, nx9⟩ := h9
          have rj9 : IsRangeIter s9.heap I' ((j + 1 : Nat) : Int) ((n1 : Int) - ((j + 1 : Nat) : Int)) 1 := nx9.kp _ _ (sb8.extBut _ _ (Ne.symm hCI') st7)
          have ri9 : IsRangeIter s9.heap I ((i + 1 : Nat) : Int) ((n0 : Int) - ((i + 1 : Nat) : Int)) 1 := nx9.kp _ _ (sb8.extBut _ _ (Ne.symm hCI) (sb7.extBut _ _ hII' ri6))
          have pl9 : s9.heap.PlainList D ys6 := pl6.at fun o e => nx9.kp _ _ (sb8.extBut _ _ hDC (sb7.extBut _ _ hDI' e))
          have ns9 := ns8.keeps nx9.kp
          have nxx9 : Nx s s9 := ⟨nx8.trans nx9.kp, nx9.gens.trans nx6.gens, nx9.dr.trans nx6.dr, nx9.os.trans nx6.os⟩
          cases hpv : p i j with
          | false =>
            simp only [Bool.false_eq_true, if_false]
            refine ⟨n1 + 1 - (j + 1), by omega, j + 1, _, ys6, hlt6, rfl, rj9, ri9, pl9, ns9, by rw [if_neg hne]; exact e6, ?_, by omega, nxx9⟩
            rw [List.range_succ, List.filter_append]
            simpa [hpv] using in6
          | true =>
            simp only [if_true]
            refine nm_local ns9 (v := .int (j : Nat) tj) (by rw [if_pos rfl]) ?_ hkind (lookup_relabel_local hx1) hdb
            have hb : i * n1 + n1 ≤ n0 * n1 := by rw [← Nat.succ_mul]; exact Nat.mul_le_mul_right _ hlt
            refine wpAny_list_append_plain (hsz := by rw [sizeLine_eq]; omega) pl9 fun h10 pl10 sb10 => ?_
            refine ⟨n1 + 1 - (j + 1), by omega, j + 1, _, ys6.push (.int (j : Nat) tj), hlt6, rfl, sb10.extBut _ _ (Ne.symm hDI') rj9, sb10.extBut _ _ (Ne.symm hDI) ri9, pl10, ns9.sameBut sb10 (Ne.symm hDC), by rw [if_neg hne]; exact e6, ?_, by rw [Array.size_push]; omega,
              ⟨fun b o e => sb10.extBut _ _ (lo b o e).1 (nxx9.kp _ _ e), nxx9.gens, nxx9.dr, nxx9.os⟩⟩
            rw [List.range_succ, List.filter_append]
            have := in6.snoc (a := j) (b := .int (j : Nat) tj) ⟨tj, rfl⟩
            simpa [hpv, ← List.append_assoc] using this
        · have hin : j = n1 := by omega
          subst hin
          refine W1.done s6 _ _ rj6 fun h7 eb7 z7 => ?_
          refine ⟨n0 + 1 - (i + 1), by omega, i + 1, m6, ys6, hlt, rfl, eb7 _ _ hII' ri6, pl6.at fun o e => eb7 _ _ hDI' e, ns6.extBut eb7 hCI', ?_, by rw [Nat.succ_mul]; exact z6, ⟨fun b o e => eb7 _ _ (nI _ _ (nx3 _ _ e)) (nx6.kp _ _ e), nx6.gens, nx6.dr, nx6.os⟩⟩
          rw [List.range_succ, List.flatMap_append]
          simpa using in6
      exact start_two1 (loop1 _ rfl) (W1.self 0 _ _ _ ri4 (loop1 _ rfl))
    · have hin : i = n0 := by omega
      subst hin
      refine W0.done s1 _ _ r1 fun h2 eb2 z2 => ?_
      exact hQ D C m1 { s1 with heap := h2 } ys ⟨fun b o e => eb2 _ _ (lo b o e).2.2 (nx1.kp _ _ e), nx1.gens, nx1.dr, nx1.os⟩ (pl1.at fun o e => eb2 _ o hDI e) in1 (ns1.extBut eb2 hCI) hDC fun b o e => ⟨(lo b o e).1, (lo b o e).2.1⟩
  exact codeAny_compStart_list (loop _ rfl) (W0.self 0 _ _ _ ri1 (loop _ rfl))
theorem two_assign {w : World} {A : Around} {env : Env} {scope : Scope} {cl : List (Str × Addr)} {x0 x1 y : Str} {p0 p1 ep pos py spos : Pos} {i0 i1 t : Expr} {Q : Flow → Shared → Prop} {E : Value → Shared → Prop} {s : Shared} {m : Str → Option Value} (n0 n1 : Nat) (p : Nat → Nat → Bool) (hA : A.handled = none) (h5 : n0 * n1 ≤ 1000)
    (hsw : swapsWith (two (.Name x1 ep) i0 i1 t x0 x1 p0 p1 scope pos) (some (.Name y py)) spos.line env = pure true) (hy : env.kindOf y = some .local) (hp : (env.scope.kind == .class || (env.scope.kind == .module && env.locals != env.globals)) = false)
    (hclos : closureFor scope env = pure cl) (hcell : scope.names.all (fun x => x.2 != .cell) = true) (hkind : scope.kind = .function) (hnames : scope.names.all (fun x => x.2 != .local || scope.names.lookup x.1 == some .local) = true)
    (hx0 : scope.names.lookup x0 = some .local) (hx1 : scope.names.lookup x1 = some .local) (hne : x0 ≠ x1) (hdb : (x1 == ("__debug__" : Str)) = false)
    (hi0 : ∀ Q', (∀ h' tk, h'.objs.size = s.heap.objs.size + 2 → Kp s.heap h' → IsRangeIter h' (s.heap.objs.size + 1) ((0 : Nat) : Int) ((n0 : Int) - ((0 : Nat) : Int)) 1 → Q' (.ref (s.heap.objs.size + 1)) { s with heap := h', toks := tk }) →
      wpAny (MM w) A (eval i0 env) (fun xv s₁ => wpAny (MM w) A (pyIter xv) Q' E s₁) E s)
    (hi1 : ∀ C s₃ E' Q', Kp s.heap s₃.heap → (∀ h' tk, h'.objs.size = s₃.heap.objs.size + 2 → Kp s₃.heap h' → IsRangeIter h' (s₃.heap.objs.size + 1) ((0 : Nat) : Int) ((n1 : Int) - ((0 : Nat) : Int)) 1 → Q' (.ref (s₃.heap.objs.size + 1)) { s₃ with heap := h', toks := tk }) →
      wpAny (MM w) A (eval i1 (compEnvC scope cl C env)) (fun xv s₁ => wpAny (MM w) A (pyIter xv) Q' E' s₁) E' s₃)
    (hs1 : ∀ C x, foldedSetIterable i1 (compEnvC scope cl C env) x = pure x)
    (ht : ∀ C i j ti tj s₃ m₃ E', i < n0 → j < n1 → Kp s.heap s₃.heap → s₃.heap.Ns C m₃ → m₃ x0 = some (.int (i : Nat) ti) → m₃ x1 = some (.int (j : Nat) tj) →
      wpAny (MM w) A (isTrue t (compEnvC scope cl C env) (eval t (compEnvC scope cl C env))) (fun ok s₄ => ok = p i j ∧ Nx s₃ s₄) E' s₃)
    (hns : s.heap.Ns env.locals m)
    (hQ : ∀ D s' ys, s'.heap.Ns env.locals (fun z => if z = y then some (.ref D) else m z) → (∀ b o, b ≠ env.locals → s.heap.get? b = some o → s'.heap.get? b = some o) → s'.gens = s.gens → s'.drawn = s.drawn → s'.os = s.os →
      s'.heap.PlainList D ys → Ints ((List.range n0).flatMap fun i => (List.range n1).filter (p i)) ys.toList → Q .next s')
    (hs : ∀ x, foldedSetIterable i0 env x = pure x := by intro _; kernel_rfl) :
    wpAny (MM w) A (exec (.Assign [.Name y py] (two (.Name x1 ep) i0 i1 t x0 x1 p0 p1 scope pos) spos) env) Q E s := by
  rw [exec_Assign_Name_used _ _ _ _ hsw]
  refine wpAny_bind (wpAny_standAt (wpAny_bind ?_))
  show wpAny _ A (do let _ ← comprehension (two (.Name x1 ep) i0 i1 t x0 x1 p0 p1 scope pos) scope env _ (newList []) false (eval i0 env) (some (assign (.Name y py) env))) _ _ s
  refine wpAny_bind (wpAny_mono (two_core (use := some (assign (.Name y py) env)) (Q := fun _ s' => Q .next s') n0 n1 p hA h5 hclos hcell hkind hnames hx0 hx1 hne hdb hi0 hi1 hs1 ht ?_ hs) (fun _ s' hq => wpAny_pure (wpAny_pure hq)) fun _ _ e => e)
  intro D C m' s' ys nx pl il ns hDC lo
  obtain ⟨oL, eL, nL, hoL, _⟩ := id hns
  have hL := lo _ _ hoL
  show wpAny _ A (assign (.Name y py) env (.ref D)) _ _ _
  refine wpAny_assign_Name (wpAny_storeName_local hy (hns.keeps nx.kp) (fun h2 hn2 hs2 => ?_) hp)
  refine ⟨m', ns.sameBut hs2 (Ne.symm hL.2), fun h3 hs3 => ?_⟩
  exact hQ D { s' with heap := h3, toks := _ } ys (hn2.sameBut hs3 hL.2) (fun b o hb e => hs3.extBut _ _ (lo b o e).2 (hs2.extBut _ _ hb (nx.kp _ _ e))) nx.gens nx.dr nx.os (pl.at fun o e => hs3.extBut _ _ hDC (hs2.extBut _ _ (Ne.symm hL.1) e)) il
end Mine

set_option maxRecDepth 100000
set_option maxHeartbeats 1000000
namespace Mine
open PySem.Calls Builtin

theorem pr_len {α β : Type} {F : α → β → Prop} : ∀ {l₁ : List α} {l₂ : List β}, Paired F l₁ l₂ → l₂.length = l₁.length
  | _, _, .nil => rfl
  | _, _, .cons _ t => by simp [pr_len t]
theorem pr_get {α β : Type} {F : α → β → Prop} : ∀ {l₁ : List α} {l₂ : List β}, Paired F l₁ l₂ → ∀ (i : Nat) (a : α) (b : β), l₁[i]? = some a → l₂[i]? = some b → F a b
  | _, _, .nil, i, a, b, h, _ => by simp at h
  | _, _, .cons h t, 0, a, b, h1, h2 => by simp at h1 h2; subst h1 h2; exact h
  | _, _, .cons h t, i + 1, a, b, h1, h2 => pr_get t i a b (by simpa using h1) (by simpa using h2)
theorem pr_of {α β : Type} {F : α → β → Prop} : ∀ {l₁ : List α} {l₂ : List β}, l₂.length = l₁.length → (∀ (i : Nat) (a : α) (b : β), l₁[i]? = some a → l₂[i]? = some b → F a b) → Paired F l₁ l₂
  | [], [], _, _ => .nil
  | [], _ :: _, h, _ => by simp at h
  | _ :: _, [], h, _ => by simp at h
  | a :: l₁, b :: l₂, hl, h => .cons (h 0 a b rfl rfl) (pr_of (by simpa using hl) fun i a b h1 h2 => h (i + 1) a b (by simpa using h1) (by simpa using h2))

/-! ## the law's frame -/
noncomputable abbrev LE (w : World) : Env := callEnvC (fdAt w 74) 76 74
def valOf : Stmt → Expr | .Assign _ v _ => v | _ => .Constant .none 0 ⟨0, 0, 0, 0⟩
def eltOf : Expr → Expr | .ListComp e _ _ _ => e | e => e
def scopeOf : Expr → Scope | .ListComp _ _ s _ => s | _ => default
def tA (k : Nat) : Addr := 235 + k
/-- what stands from the class on -/
structure BF (w : World) (nm tt : Nat → Str) (h : Heap) : Prop where
  X : (KK w).In h
  C : CF h
  cN : h.IsCell 78 (some (.ref 177))
  nl : ∃ items, h.PlainList 177 items ∧ items.size = 5 ∧ ∀ k, k < 5 → ∃ t, items[k]? = some (.str (nm k) t)
  cT : h.IsCell 79 (some (.ref 233))
  tl : h.PlainList 233 (([0, 1, 2, 3, 4].map tA).map Value.ref).toArray
  th : ∀ k, k < 5 → (tt k).length ≤ 1000 ∧ ∃ tk tk' n, h.get? (tA k) = some ⟨.type "list", none, .seq #[.str (tt k) tk, .int (k : Nat) tk'] n, #[]⟩
  cK : h.IsCell 82 (some (.ref 302))
theorem BF.kp {w : World} {nm tt : Nat → Str} {h h' : Heap} (b : BF w nm tt h) (k : Kp h h') : BF w nm tt h' :=
  ⟨b.X.keeps k, b.C.kp k, b.cN.keeps k, let ⟨i, p, z, r⟩ := b.nl; ⟨i, pl_kp p k, z, r⟩, b.cT.keeps k, pl_kp b.tl k, fun j hj => let ⟨z, t, t', n, e⟩ := b.th j hj; ⟨z, t, t', n, k _ _ e⟩, b.cK.keeps k⟩
theorem BF.title {w : World} {nm tt : Nat → Str} {h : Heap} (b : BF w nm tt h) {k : Nat} (hk : k < 5) : Title h (tA k) (tt k) := let ⟨z, t, t', n, e⟩ := b.th k hk; ⟨z, _, t, t', n, e⟩
def ltN (nm : Nat → Str) (j k : Nat) : Bool := decide (cp (nm j) < cp (nm k))
def gtN (nm : Nat → Str) (j k : Nat) : Bool := decide (cp (nm k) < cp (nm j))
def eqN (nm : Nat → Str) (j k : Nat) : Bool := decide (cp (nm j) = cp (nm k))

section
variable {w : World} {A : Around} {s : Shared} {Q E : Value → Shared → Prop} {nm tt : Nat → Str} {env : Env}
theorem rd_names {e1 e2 : Expr} {pos : Pos} {k : Nat} {u : Tok} (B : BF w nm tt s.heap) (hk : k < 5) (h1 : ∀ Q', Q' (.ref 177) s → wpAny (MM w) A (eval e1 env) Q' E s) (h2 : ∀ Q', Q' (.int (k : Nat) u) s → wpAny (MM w) A (eval e2 env) Q' E s)
    (hQ : ∀ t, Q (.str (nm k) t) s)
    (he : ∀ v i, subscripted e2 false v i = operate [v, i] (getItem v i) := by intro _ _; kernel_rfl) :
    wpAny (MM w) A (eval (.Subscript e1 e2 pos) env) Q E s := by
  refine Subscript_ ?_
  refine h1 _ ?_
  refine h2 _ ?_
  obtain ⟨items, pl, z, r⟩ := B.nl
  obtain ⟨t, e⟩ := r k hk
  exact item_at pl.isList (by omega) (by omega) (by simpa using e) (hQ t) (he _ _)

def aheadN (lt : Nat → Nat → Bool) (nm : Nat → Str) (k : Nat) : Nat := ((List.range 5).filter fun j => lt j k || (eqN nm j k && decide (j < k))).length
def vNat : Value → Nat | .int i _ => i.toNat | _ => 0
abbrev clK (C : Addr) : List (Str × Addr) := [("k", C + 1), ("names", 78)]
abbrev clJ (C : Addr) : List (Str × Addr) := [("names", 78), ("k", C + 1)]

theorem vs_range {n : Nat} {vs : List Value} (hl : vs.length = n) (h : ∀ (j : Nat) (v : Value), vs[j]? = some v → j < n ∧ ∃ t, v = Value.int (j : Nat) t) : vs.map vNat = List.range n := by
  refine List.ext_getElem? fun i => ?_
  by_cases hi : i < n
  · have hi' : i < vs.length := by omega
    obtain ⟨_, t, e⟩ := h i vs[i] (List.getElem?_eq_getElem hi')
    simp [hi, hi', e, vNat]
  · simp [hi, hl]
theorem filt_len {n : Nat} {vs : List Value} (hl : vs.length = n) (h : ∀ (j : Nat) (v : Value), vs[j]? = some v → j < n ∧ ∃ t, v = Value.int (j : Nat) t) (q : Nat → Bool) : (vs.filter fun v => q (vNat v)).length = ((List.range n).filter q).length := by
  rw [← vs_range hl h, List.filter_map, List.length_map]; rfl
theorem ints_of {n : Nat} {vs ys : List Value} {g : Nat → Nat} (hl : vs.length = n) (h : ∀ (j : Nat) (v : Value), vs[j]? = some v → j < n ∧ ∃ t, v = Value.int (j : Nat) t)
    (hF : Paired (fun v y => ∃ (k : Nat) (t t' : Tok), v = Value.int k t ∧ y = Value.int (g k) t') vs ys) : Ints ((List.range n).map g) ys := by
  refine pr_of (by rw [pr_len hF, List.length_map, List.length_range, hl]) fun i a b h1 h2 => ?_
  have hi : i < n := by
    have := (List.getElem?_eq_some_iff.mp h1).1
    simpa using this
  have hi' : i < vs.length := by omega
  have e := List.getElem?_eq_getElem hi'
  obtain ⟨k, t, t', e1, e2⟩ := pr_get hF i _ b e h2
  obtain ⟨_, t2, e3⟩ := h i _ e
  rw [e1] at e3
  injection e3 with e3 _
  have : k = i := by omega
  subst this
  simp [hi] at h1
  subst h1
  exact ⟨t', e2⟩
theorem ahead_e (ok : Okay 2 A) (B : BF w nm tt s.heap) (hQ : ∀ D s' ys, Nx s s' → s'.heap.PlainList D ys → Ints ((List.range 5).map (aheadN (ltN nm) nm)) ys.toList → Q (.ref D) s') :
    wpAny (MM w) A (eval (valOf (stAt lawB 4)) (LE w)) Q E s := by
  refine lc_cell (F := fun v y => ∃ (k : Nat) (t t' : Tok), v = .int k t ∧ y = .int (aheadN (ltN nm) nm k) t') (x := "k") (cl := [("names", 78)]) (by kernel_rfl) (by kernel_rfl) (by kernel_rfl) (by intro _; kernel_rfl) (by intro _; kernel_rfl) (by intro _; kernel_rfl) ?_
  refine range_iter (n := 5) B.X (by kernel_rfl) (by kernel_rfl) (by kernel_rfl) (by kernel_rfl) (by kernel_rfl) (by kernel_rfl) fun h1 tk1 z1 k1 ri1 => ?_
  have nI : ∀ b o, s.heap.get? b = some o → b ≠ s.heap.objs.size + 1 := fun b o e => Nat.ne_of_lt (Nat.lt_succ_of_lt (Heap.lt_size e))
  refine ⟨_, _, 5, _, _, rfl, WalkZ.range ok.hd (s.heap.objs.size + 1) 5, by decide, ri1, ?_, ?_, ?_⟩
  · intro b hb
    rw [List.mem_singleton] at hb
    show b < h1.objs.size
    rw [hb, z1]; exact Nat.lt_succ_self _
  · rintro C i v s3 E' hC ⟨hi, ti, rfl⟩ hcell k3
    have k3' : Kp s.heap s3.heap := fun b o e => k3 b o (nI b o e) (k1 _ _ e)
    have B3 := B.kp k3'
    refine Call_ ?_ (by kernel_rfl)
    refine nm_blt (w := w) B3.X (v := .builtin "len") (by kernel_rfl) (by kernel_rfl) ?_ (by kernel_rfl) (by kernel_rfl) (by kernel_rfl) (by kernel_rfl)
    refine callWith_builtin1 ?_ (by kernel_rfl) (by kernel_rfl)
    refine args_cons ?_ (by kernel_rfl)
    refine lc_z (x := "j") (cl := clJ C) (fun v => ltN nm (vNat v) i || (eqN nm (vNat v) i && decide (vNat v < i))) (fun v y f => y = v ∧ f = []) none (by kernel_rfl) (by kernel_rfl) (by kernel_rfl) (by kernel_rfl) (by kernel_rfl) ?_
    refine range_iter (n := 5) B3.X (by kernel_rfl) (by kernel_rfl) (by kernel_rfl) (by kernel_rfl) (by kernel_rfl) (by kernel_rfl) fun h4 tk4 z4 k4 ri4 => ?_
    have nI4 : ∀ b o, s3.heap.get? b = some o → b ≠ s3.heap.objs.size + 1 := fun b o e => Nat.ne_of_lt (Nat.lt_succ_of_lt (Heap.lt_size e))
    refine ⟨_, _, 5, _, _, rfl, WalkZ.range ok.hd (s3.heap.objs.size + 1) 5, by decide, ri4, ?_, ⟨?_, ?_⟩, ?_⟩
    · intro b hb
      rw [List.mem_singleton] at hb
      show b < h4.objs.size
      rw [hb, z4]; exact Nat.lt_succ_self _
    · rintro C' j _ s5 m5 E5 hC' ⟨hj, tj, rfl⟩ N5 hm k5
      have k5' : Kp s3.heap s5.heap := fun b o e => k5 b o (nI4 b o e) (k4 _ _ e)
      have B5 := B3.kp k5'
      have rdN : ∀ {p : Pos} {Q' : Value → Shared → Prop} {E'' : Value → Shared → Prop}, Q' (.ref 177) s5 → wpAny (MM w) A (eval (.Name "names" p) (compEnvC (scopeOf (argOf 0 (eltOf (valOf (stAt lawB 4))))) (clJ C) C' (compEnvC (scopeOf (valOf (stAt lawB 4))) (clK C) C (LE w)))) Q' E'' s5 := fun hq =>
        wpAny_Name (wpAny_loadName_cell (by kernel_rfl) (by kernel_rfl) (by rfl) B5.cN hq)
      have rdJ : ∀ {p : Pos} {Q' : Value → Shared → Prop} {E'' : Value → Shared → Prop}, Q' (.int (j : Nat) tj) s5 → wpAny (MM w) A (eval (.Name "j" p) (compEnvC (scopeOf (argOf 0 (eltOf (valOf (stAt lawB 4))))) (clJ C) C' (compEnvC (scopeOf (valOf (stAt lawB 4))) (clK C) C (LE w)))) Q' E'' s5 := fun hq =>
        nm_local N5 hm hq (by kernel_rfl) (by kernel_rfl)
      have rdK : ∀ {p : Pos} {Q' : Value → Shared → Prop} {E'' : Value → Shared → Prop}, Q' (.int (i : Nat) ti) s5 → wpAny (MM w) A (eval (.Name "k" p) (compEnvC (scopeOf (argOf 0 (eltOf (valOf (stAt lawB 4))))) (clJ C) C' (compEnvC (scopeOf (valOf (stAt lawB 4))) (clK C) C (LE w)))) Q' E'' s5 := fun hq =>
        wpAny_Name (wpAny_loadName_cell (by kernel_rfl) (by kernel_rfl) (by rfl) (hcell.keeps k5') hq)
      refine wpAny_tests_one ?_
      refine wpAny_isTrue_BoolOp ?_
      refine wpAny_allTrue_Or_cons ?_
      refine wpAny_isTrue_Compare1 ?_
      refine rd_names B5 hj (fun _ => rdN) (fun _ => rdJ) fun t1 => ?_
      refine rd_names B5 hi (fun _ => rdN) (fun _ => rdK) fun t2 => ?_
      refine P.lt_str ?_
      refine wpAny_truthy_bool ?_
      by_cases hlt : cp (nm j) < cp (nm i)
      · rw [if_pos (by simpa using hlt)]
        exact ⟨by simp [vNat, ltN, hlt], Nx.refl _, fun h => by cases h⟩
      rw [if_neg (by simpa using hlt)]
      refine wpAny_allTrue_Or_cons ?_
      refine wpAny_isTrue_BoolOp ?_
      refine wpAny_allTrue_And_cons ?_
      refine wpAny_isTrue_Compare1 ?_
      refine rd_names B5 hj (fun _ => rdN) (fun _ => rdJ) fun t1 => ?_
      refine rd_names B5 hi (fun _ => rdN) (fun _ => rdK) fun t2 => ?_
      refine P.eq_str ?_
      refine wpAny_truthy_bool ?_
      by_cases heq : cp (nm j) = cp (nm i)
      · rw [if_pos (by simpa using heq)]
        refine wpAny_allTrue_And_cons ?_
        refine wpAny_isTrue_Compare1 ?_
        refine rdJ ?_
        refine rdK ?_
        refine P.lt_int ?_
        refine wpAny_truthy_bool ?_
        by_cases hji : j < i
        · rw [if_pos (by simpa using hji)]
          refine wpAny_allTrue_And_nil ?_
          rw [if_pos rfl]
          exact ⟨by simp [vNat, eqN, heq, hji], Nx.refl _, fun h => by cases h⟩
        · rw [if_neg (by simpa using hji)]
          rw [if_neg (by decide)]
          refine wpAny_allTrue_Or_nil ?_
          exact ⟨by simp [vNat, ltN, eqN, hlt, hji], Nx.refl _, fun h => by cases h⟩
      · rw [if_neg (by simpa using heq)]
        rw [if_neg (by decide)]
        refine wpAny_allTrue_Or_nil ?_
        exact ⟨by simp [vNat, ltN, eqN, hlt, heq], Nx.refl _, fun h => by cases h⟩
    · rintro C' j _ s5 m5 E5 hC' ⟨hj, tj, rfl⟩ hp N5 hm k5
      refine nm_local N5 hm ?_ (by kernel_rfl) (by kernel_rfl)
      exact ⟨⟨[], ⟨rfl, rfl⟩, fun q hq => by cases hq⟩, Nx.refl _, fun k e => by cases e⟩
    · intro s5 ys vs pl5 hlen hP hM k5 g5 d5 o5 _
      refine args_nil ?_
      have hsz : ys.size = aheadN (ltN nm) nm i := by
        have e1 := hM.length
        rw [Array.length_toList] at e1
        rw [e1]
        exact filt_len hlen hP fun j => ltN nm j i || (eqN nm j i && decide (j < i))
      have h5 : aheadN (ltN nm) nm i ≤ 5 := by unfold aheadN; exact Nat.le_trans (List.length_filter_le _ _) (by simp)
      refine call_len_list pl5.isList (by rw [hsz]; omega) ?_
      exact ⟨⟨i, ti, _, rfl, by rw [hsz]⟩, ⟨fun b o e => k5 b o (nI4 b o e) (k4 _ _ e), g5, d5, o5⟩⟩
  · intro s2 ys vs pl hlen hP hF k2 g2 d2 o2
    refine hQ _ s2 ys ⟨fun b o e => k2 b o (nI b o e) (k1 _ _ e), g2, d2, o2⟩ pl ?_
    exact ints_of hlen hP hF
theorem turned_e (ok : Okay 2 A) (B : BF w nm tt s.heap) (hQ : ∀ D s' ys, Nx s s' → s'.heap.PlainList D ys → Ints ((List.range 5).map (aheadN (gtN nm) nm)) ys.toList → Q (.ref D) s') :
    wpAny (MM w) A (eval (valOf (stAt lawB 5)) (LE w)) Q E s := by
  refine lc_cell (F := fun v y => ∃ (k : Nat) (t t' : Tok), v = .int k t ∧ y = .int (aheadN (gtN nm) nm k) t') (x := "k") (cl := [("names", 78)]) (by kernel_rfl) (by kernel_rfl) (by kernel_rfl) (by intro _; kernel_rfl) (by intro _; kernel_rfl) (by intro _; kernel_rfl) ?_
  refine range_iter (n := 5) B.X (by kernel_rfl) (by kernel_rfl) (by kernel_rfl) (by kernel_rfl) (by kernel_rfl) (by kernel_rfl) fun h1 tk1 z1 k1 ri1 => ?_
  have nI : ∀ b o, s.heap.get? b = some o → b ≠ s.heap.objs.size + 1 := fun b o e => Nat.ne_of_lt (Nat.lt_succ_of_lt (Heap.lt_size e))
  refine ⟨_, _, 5, _, _, rfl, WalkZ.range ok.hd (s.heap.objs.size + 1) 5, by decide, ri1, ?_, ?_, ?_⟩
  · intro b hb
    rw [List.mem_singleton] at hb
    show b < h1.objs.size
    rw [hb, z1]; exact Nat.lt_succ_self _
  · rintro C i v s3 E' hC ⟨hi, ti, rfl⟩ hcell k3
    have k3' : Kp s.heap s3.heap := fun b o e => k3 b o (nI b o e) (k1 _ _ e)
    have B3 := B.kp k3'
    refine Call_ ?_ (by kernel_rfl)
    refine nm_blt (w := w) B3.X (v := .builtin "len") (by kernel_rfl) (by kernel_rfl) ?_ (by kernel_rfl) (by kernel_rfl) (by kernel_rfl) (by kernel_rfl)
    refine callWith_builtin1 ?_ (by kernel_rfl) (by kernel_rfl)
    refine args_cons ?_ (by kernel_rfl)
    refine lc_z (x := "j") (cl := clJ C) (fun v => gtN nm (vNat v) i || (eqN nm (vNat v) i && decide (vNat v < i))) (fun v y f => y = v ∧ f = []) none (by kernel_rfl) (by kernel_rfl) (by kernel_rfl) (by kernel_rfl) (by kernel_rfl) ?_
    refine range_iter (n := 5) B3.X (by kernel_rfl) (by kernel_rfl) (by kernel_rfl) (by kernel_rfl) (by kernel_rfl) (by kernel_rfl) fun h4 tk4 z4 k4 ri4 => ?_
    have nI4 : ∀ b o, s3.heap.get? b = some o → b ≠ s3.heap.objs.size + 1 := fun b o e => Nat.ne_of_lt (Nat.lt_succ_of_lt (Heap.lt_size e))
    refine ⟨_, _, 5, _, _, rfl, WalkZ.range ok.hd (s3.heap.objs.size + 1) 5, by decide, ri4, ?_, ⟨?_, ?_⟩, ?_⟩
    · intro b hb
      rw [List.mem_singleton] at hb
      show b < h4.objs.size
      rw [hb, z4]; exact Nat.lt_succ_self _
    · rintro C' j _ s5 m5 E5 hC' ⟨hj, tj, rfl⟩ N5 hm k5
      have k5' : Kp s3.heap s5.heap := fun b o e => k5 b o (nI4 b o e) (k4 _ _ e)
      have B5 := B3.kp k5'
      have rdN : ∀ {p : Pos} {Q' : Value → Shared → Prop} {E'' : Value → Shared → Prop}, Q' (.ref 177) s5 → wpAny (MM w) A (eval (.Name "names" p) (compEnvC (scopeOf (argOf 0 (eltOf (valOf (stAt lawB 5))))) (clJ C) C' (compEnvC (scopeOf (valOf (stAt lawB 5))) (clK C) C (LE w)))) Q' E'' s5 := fun hq =>
        wpAny_Name (wpAny_loadName_cell (by kernel_rfl) (by kernel_rfl) (by rfl) B5.cN hq)
      have rdJ : ∀ {p : Pos} {Q' : Value → Shared → Prop} {E'' : Value → Shared → Prop}, Q' (.int (j : Nat) tj) s5 → wpAny (MM w) A (eval (.Name "j" p) (compEnvC (scopeOf (argOf 0 (eltOf (valOf (stAt lawB 5))))) (clJ C) C' (compEnvC (scopeOf (valOf (stAt lawB 5))) (clK C) C (LE w)))) Q' E'' s5 := fun hq =>
        nm_local N5 hm hq (by kernel_rfl) (by kernel_rfl)
      have rdK : ∀ {p : Pos} {Q' : Value → Shared → Prop} {E'' : Value → Shared → Prop}, Q' (.int (i : Nat) ti) s5 → wpAny (MM w) A (eval (.Name "k" p) (compEnvC (scopeOf (argOf 0 (eltOf (valOf (stAt lawB 5))))) (clJ C) C' (compEnvC (scopeOf (valOf (stAt lawB 5))) (clK C) C (LE w)))) Q' E'' s5 := fun hq =>
        wpAny_Name (wpAny_loadName_cell (by kernel_rfl) (by kernel_rfl) (by rfl) (hcell.keeps k5') hq)
      refine wpAny_tests_one ?_
      refine wpAny_isTrue_BoolOp ?_
      refine wpAny_allTrue_Or_cons ?_
      refine wpAny_isTrue_Compare1 ?_
      refine rd_names B5 hj (fun _ => rdN) (fun _ => rdJ) fun t1 => ?_
      refine rd_names B5 hi (fun _ => rdN) (fun _ => rdK) fun t2 => ?_
      refine P.gt_str ?_
      refine wpAny_truthy_bool ?_
      by_cases hlt : cp (nm i) < cp (nm j)
      · rw [if_pos (by simpa using hlt)]
        exact ⟨by simp [vNat, gtN, hlt], Nx.refl _, fun h => by cases h⟩
      rw [if_neg (by simpa using hlt)]
      refine wpAny_allTrue_Or_cons ?_
      refine wpAny_isTrue_BoolOp ?_
      refine wpAny_allTrue_And_cons ?_
      refine wpAny_isTrue_Compare1 ?_
      refine rd_names B5 hj (fun _ => rdN) (fun _ => rdJ) fun t1 => ?_
      refine rd_names B5 hi (fun _ => rdN) (fun _ => rdK) fun t2 => ?_
      refine P.eq_str ?_
      refine wpAny_truthy_bool ?_
      by_cases heq : cp (nm j) = cp (nm i)
      · rw [if_pos (by simpa using heq)]
        refine wpAny_allTrue_And_cons ?_
        refine wpAny_isTrue_Compare1 ?_
        refine rdJ ?_
        refine rdK ?_
        refine P.lt_int ?_
        refine wpAny_truthy_bool ?_
        by_cases hji : j < i
        · rw [if_pos (by simpa using hji)]
          refine wpAny_allTrue_And_nil ?_
          rw [if_pos rfl]
          exact ⟨by simp [vNat, eqN, heq, hji], Nx.refl _, fun h => by cases h⟩
        · rw [if_neg (by simpa using hji)]
          rw [if_neg (by decide)]
          refine wpAny_allTrue_Or_nil ?_
          exact ⟨by simp [vNat, gtN, eqN, hlt, hji], Nx.refl _, fun h => by cases h⟩
      · rw [if_neg (by simpa using heq)]
        rw [if_neg (by decide)]
        refine wpAny_allTrue_Or_nil ?_
        exact ⟨by simp [vNat, gtN, eqN, hlt, heq], Nx.refl _, fun h => by cases h⟩
    · rintro C' j _ s5 m5 E5 hC' ⟨hj, tj, rfl⟩ hp N5 hm k5
      refine nm_local N5 hm ?_ (by kernel_rfl) (by kernel_rfl)
      exact ⟨⟨[], ⟨rfl, rfl⟩, fun q hq => by cases hq⟩, Nx.refl _, fun k e => by cases e⟩
    · intro s5 ys vs pl5 hlen hP hM k5 g5 d5 o5 _
      refine args_nil ?_
      have hsz : ys.size = aheadN (gtN nm) nm i := by
        have e1 := hM.length
        rw [Array.length_toList] at e1
        rw [e1]
        exact filt_len hlen hP fun j => gtN nm j i || (eqN nm j i && decide (j < i))
      have h5 : aheadN (gtN nm) nm i ≤ 5 := by unfold aheadN; exact Nat.le_trans (List.length_filter_le _ _) (by simp)
      refine call_len_list pl5.isList (by rw [hsz]; omega) ?_
      exact ⟨⟨i, ti, _, rfl, by rw [hsz]⟩, ⟨fun b o e => k5 b o (nI4 b o e) (k4 _ _ e), g5, d5, o5⟩⟩
  · intro s2 ys vs pl hlen hP hF k2 g2 d2 o2
    refine hQ _ s2 ys ⟨fun b o e => k2 b o (nI b o e) (k1 _ _ e), g2, d2, o2⟩ pl ?_
    exact ints_of hlen hP hF
end
end Mine

set_option maxRecDepth 100000
set_option maxHeartbeats 1000000
namespace Mine
open PySem.Calls Builtin
def rightOf : Expr → Expr | .Compare _ _ [r] _ => r | e => e
def retOf : Stmt → Expr | .Return (some e) _ => e | _ => .Constant .none 0 ⟨0, 0, 0, 0⟩
def dueN (av : Nat → Nat) : List Nat := (List.range 5).flatMap fun i => (List.range 5).filter fun k => av k == i
theorem ints_get {l : List Nat} {ys : Array Value} (h : Ints l ys.toList) {i k : Nat} (hk : l[i]? = some k) : ∃ t, ys[i]? = some (.int (k : Nat) t) := by
  have hi := (List.getElem?_eq_some_iff.mp hk).1
  have hl : ys.size = l.length := by have := pr_len h; simpa using this
  have e : ys.toList[i]? = some ys[i] := by simp [hl ▸ hi]
  obtain ⟨t, e2⟩ := pr_get h i k _ hk e
  exact ⟨t, by rw [← Array.getElem?_toList, e, e2]⟩

theorem made_map {g : Value → Value} {B : Nat} {h : Heap} : ∀ {vs ys : List Value}, Made (fun v y f => y = g v ∧ f = []) B h vs ys → ys = vs.map g
  | _, _, .nil => rfl
  | _, _, .cons a _ r => by rw [a.1, made_map r]; rfl
theorem ints_nat : ∀ {l : List Nat} {ys : List Value}, Ints l ys → ys.map vNat = l
  | _, _, .nil => rfl
  | _, _, .cons h t => by obtain ⟨u, rfl⟩ := h; simp [vNat, ints_nat t]
section
variable {w : World} {A : Around} {s : Shared} {Q E : Value → Shared → Prop} {nm tt : Nat → Str}
theorem due_e {al : Addr} {ys : Array Value} {av : Nat → Nat} {m : Str → Option Value} {Q : Flow → Shared → Prop} (ok : Okay 2 A) (B : BF w nm tt s.heap) (N76 : s.heap.Ns 76 m) (hc : s.heap.IsCell 80 (some (.ref al))) (hl : s.heap.PlainList al ys) (hi : Ints ((List.range 5).map av) ys.toList)
    (hQ : ∀ D s' ys, s'.heap.Ns 76 (fun z => if z = Str.ofString "due" then some (.ref D) else m z) → (∀ b o, b ≠ 76 → s.heap.get? b = some o → s'.heap.get? b = some o) → s'.gens = s.gens → s'.drawn = s.drawn → s'.os = s.os → s'.heap.PlainList D ys → Ints (dueN av) ys.toList → Q .next s') :
    wpAny (MM w) A (exec (stAt lawB 6) (LE w)) Q E s := by
  refine two_assign (x0 := "place") (x1 := "k") (cl := [("ahead", 80)]) 5 5 (fun i k => av k == i) ok.hd (by decide) (by kernel_rfl) (by kernel_rfl) (by kernel_rfl) (by kernel_rfl) (by kernel_rfl) (by kernel_rfl) (by kernel_rfl) (by kernel_rfl) (by kernel_rfl) (by decide) (by decide) ?_ ?_ ?_ ?_ N76 hQ
  · intro Q' hq
    exact range_iter (n := 5) B.X (by kernel_rfl) (by kernel_rfl) (by kernel_rfl) (by kernel_rfl) (by kernel_rfl) (by kernel_rfl) hq
  · intro C s3 E' Q' k hq
    exact range_iter (n := 5) (B.X.keeps k) (by kernel_rfl) (by kernel_rfl) (by kernel_rfl) (by kernel_rfl) (by kernel_rfl) (by kernel_rfl) hq
  · intro C x
    kernel_rfl
  · intro C i j ti tj s3 m3 E' hi' hj k N hm0 hm1
    refine wpAny_isTrue_Compare1 ?_
    refine Subscript_ ?_
    refine wpAny_Name (wpAny_loadName_cell (by kernel_rfl) (by kernel_rfl) (by rfl) (hc.keeps k) ?_)
    refine nm_local N hm1 ?_ (by kernel_rfl) (by kernel_rfl)
    obtain ⟨t, e⟩ := ints_get hi (i := j) (k := av j) (by simp [hj])
    refine item_at (pl_kp hl k).isList (by omega) (by omega) (by simpa using e) ?_ (by kernel_rfl)
    refine nm_local N hm0 ?_ (by kernel_rfl) (by kernel_rfl)
    refine P.eq_int ?_
    refine wpAny_truthy_bool ?_
    refine ⟨?_, Nx.refl _⟩
    rw [Bool.eq_iff_iff]
    simp
    omega
theorem things_e {dl : Addr} {ys : Array Value} {l : List Nat} {m : Str → Option Value} (ok : Okay 2 A) (B : BF w nm tt s.heap) (N : s.heap.Ns 76 m) (hm : m "due" = some (.ref dl)) (hl : s.heap.PlainList dl ys) (hi : Ints l ys.toList) (h5 : ∀ k ∈ l, k < 5) (hlen : l.length ≤ 1000)
    (hQ : ∀ D s', Nx s s' → s'.heap.PlainList D ((l.map tA).map Value.ref).toArray → Q (.ref D) s') :
    wpAny (MM w) A (eval (rightOf (testOf (stAt lawB 9))) (LE w)) Q E s := by
  refine lc_z (x := "k") (cl := [("things", 79)]) (fun _ => true) (fun v y f => y = .ref (tA (vNat v)) ∧ f = []) none (by kernel_rfl) (by kernel_rfl) (by kernel_rfl) (by kernel_rfl) (by kernel_rfl) ?_
  refine nm_local N hm ?_ (by kernel_rfl) (by kernel_rfl)
  refine wpAny_pyIter_list hl.isList ?_
  have nI : ∀ b o, s.heap.get? b = some o → b ≠ s.heap.objs.size := fun b o e => Nat.ne_of_lt (Heap.lt_size e)
  have hne : dl ≠ s.heap.objs.size := by obtain ⟨n, e⟩ := hl; exact nI _ _ e
  have hsz : ys.size = l.length := by have := pr_len hi; simpa using this
  refine ⟨_, _, ys.size, _, _, rfl, WalkZ.list ok.hd s.heap.objs.size dl hne ys, by omega, ⟨⟨_, Heap.get?_push_size _ rfl, rfl, rfl⟩, hl.isList.push _⟩, ?_, ⟨?_, ?_⟩, ?_⟩
  · intro b hb
    simp only [List.mem_cons, List.not_mem_nil, or_false] at hb
    show b < (s.heap.push _).objs.size
    rw [Heap.size_push]
    rcases hb with rfl | rfl
    · exact Nat.lt_succ_self _
    · obtain ⟨n, e⟩ := hl; exact Nat.lt_succ_of_lt (Heap.lt_size e)
  · intro C i v s3 m3 E' _ _ _ _ _
    exact wpAny_tests_nil ⟨rfl, Nx.refl _, fun h => by cases h⟩
  · intro C i v s3 m3 E' hC hP _ N3 hm3 k3
    have k3' : Kp s.heap s3.heap := fun b o e => k3 b o (nI b o e) (Heap.get?_push_of_some _ e)
    have hi' : i < l.length := by have := (Array.getElem?_eq_some_iff.mp hP).1; omega
    obtain ⟨t, e⟩ := ints_get hi (i := i) (k := l[i]) (List.getElem?_eq_getElem hi')
    rw [e] at hP
    cases hP
    have hk5 := h5 _ (List.getElem_mem hi')
    have B3 := B.kp k3'
    refine Subscript_ ?_
    refine wpAny_Name (wpAny_loadName_cell (by kernel_rfl) (by kernel_rfl) (by rfl) B3.cT ?_)
    refine nm_local N3 hm3 ?_ (by kernel_rfl) (by kernel_rfl)
    refine item_at (v := .ref (tA l[i])) B3.tl.isList (by omega) (by omega) ?_ ?_ (by kernel_rfl)
    · have : ∀ k, k < 5 → ((([0, 1, 2, 3, 4].map tA).map Value.ref).toArray)[k]? = some (.ref (tA k)) := by
        intro k hk
        match k, hk with
        | 0, _ => rfl
        | 1, _ => rfl
        | 2, _ => rfl
        | 3, _ => rfl
        | 4, _ => rfl
      simpa using this _ hk5
    · exact ⟨⟨[], ⟨by simp [vNat], rfl⟩, fun q hq => by cases hq⟩, Nx.refl _, fun k e => by cases e⟩
  · intro s5 zs vs pl5 hlen5 hP hM k5 g5 d5 o5 _
    refine hQ _ s5 ⟨fun b o e => k5 b o (nI b o e) (Heap.get?_push_of_some _ e), g5, d5, o5⟩ ?_
    have : zs = ((l.map tA).map Value.ref).toArray := by
      apply arr_of
      have e1 : vs = ys.toList := vs_items hlen5 hP
      subst e1
      rw [List.filter_eq_self.mpr (fun _ _ => rfl)] at hM
      rw [made_map hM, ← ints_nat hi, List.map_map, List.map_map]
      rfl
    rw [this] at pl5
    exact pl5
theorem back_e {al : Addr} {ys : Array Value} {av : Nat → Nat} {m : Str → Option Value} {Q : Flow → Shared → Prop} (ok : Okay 2 A) (B : BF w nm tt s.heap) (N76 : s.heap.Ns 76 m) (hc : s.heap.IsCell 81 (some (.ref al))) (hl : s.heap.PlainList al ys) (hi : Ints ((List.range 5).map av) ys.toList)
    (hQ : ∀ D s' ys, s'.heap.Ns 76 (fun z => if z = Str.ofString "back" then some (.ref D) else m z) → (∀ b o, b ≠ 76 → s.heap.get? b = some o → s'.heap.get? b = some o) → s'.gens = s.gens → s'.drawn = s.drawn → s'.os = s.os → s'.heap.PlainList D ys → Ints (dueN av) ys.toList → Q .next s') :
    wpAny (MM w) A (exec (stAt lawB 7) (LE w)) Q E s := by
  refine two_assign (x0 := "place") (x1 := "k") (cl := [("turned", 81)]) 5 5 (fun i k => av k == i) ok.hd (by decide) (by kernel_rfl) (by kernel_rfl) (by kernel_rfl) (by kernel_rfl) (by kernel_rfl) (by kernel_rfl) (by kernel_rfl) (by kernel_rfl) (by kernel_rfl) (by decide) (by decide) ?_ ?_ ?_ ?_ N76 hQ
  · intro Q' hq
    exact range_iter (n := 5) B.X (by kernel_rfl) (by kernel_rfl) (by kernel_rfl) (by kernel_rfl) (by kernel_rfl) (by kernel_rfl) hq
  · intro C s3 E' Q' k hq
    exact range_iter (n := 5) (B.X.keeps k) (by kernel_rfl) (by kernel_rfl) (by kernel_rfl) (by kernel_rfl) (by kernel_rfl) (by kernel_rfl) hq
  · intro C x
    kernel_rfl
  · intro C i j ti tj s3 m3 E' hi' hj k N hm0 hm1
    refine wpAny_isTrue_Compare1 ?_
    refine Subscript_ ?_
    refine wpAny_Name (wpAny_loadName_cell (by kernel_rfl) (by kernel_rfl) (by rfl) (hc.keeps k) ?_)
    refine nm_local N hm1 ?_ (by kernel_rfl) (by kernel_rfl)
    obtain ⟨t, e⟩ := ints_get hi (i := j) (k := av j) (by simp [hj])
    refine item_at (pl_kp hl k).isList (by omega) (by omega) (by simpa using e) ?_ (by kernel_rfl)
    refine nm_local N hm0 ?_ (by kernel_rfl) (by kernel_rfl)
    refine P.eq_int ?_
    refine wpAny_truthy_bool ?_
    refine ⟨?_, Nx.refl _⟩
    rw [Bool.eq_iff_iff]
    simp
    omega
theorem thingsB_e {dl : Addr} {ys : Array Value} {l : List Nat} {m : Str → Option Value} (ok : Okay 2 A) (B : BF w nm tt s.heap) (N : s.heap.Ns 76 m) (hm : m "back" = some (.ref dl)) (hl : s.heap.PlainList dl ys) (hi : Ints l ys.toList) (h5 : ∀ k ∈ l, k < 5) (hlen : l.length ≤ 1000)
    (hQ : ∀ D s', Nx s s' → s'.heap.PlainList D ((l.map tA).map Value.ref).toArray → Q (.ref D) s') :
    wpAny (MM w) A (eval (rightOf (testOf (stAt lawB 10))) (LE w)) Q E s := by
  refine lc_z (x := "k") (cl := [("things", 79)]) (fun _ => true) (fun v y f => y = .ref (tA (vNat v)) ∧ f = []) none (by kernel_rfl) (by kernel_rfl) (by kernel_rfl) (by kernel_rfl) (by kernel_rfl) ?_
  refine nm_local N hm ?_ (by kernel_rfl) (by kernel_rfl)
  refine wpAny_pyIter_list hl.isList ?_
  have nI : ∀ b o, s.heap.get? b = some o → b ≠ s.heap.objs.size := fun b o e => Nat.ne_of_lt (Heap.lt_size e)
  have hne : dl ≠ s.heap.objs.size := by obtain ⟨n, e⟩ := hl; exact nI _ _ e
  have hsz : ys.size = l.length := by have := pr_len hi; simpa using this
  refine ⟨_, _, ys.size, _, _, rfl, WalkZ.list ok.hd s.heap.objs.size dl hne ys, by omega, ⟨⟨_, Heap.get?_push_size _ rfl, rfl, rfl⟩, hl.isList.push _⟩, ?_, ⟨?_, ?_⟩, ?_⟩
  · intro b hb
    simp only [List.mem_cons, List.not_mem_nil, or_false] at hb
    show b < (s.heap.push _).objs.size
    rw [Heap.size_push]
    rcases hb with rfl | rfl
    · exact Nat.lt_succ_self _
    · obtain ⟨n, e⟩ := hl; exact Nat.lt_succ_of_lt (Heap.lt_size e)
  · intro C i v s3 m3 E' _ _ _ _ _
    exact wpAny_tests_nil ⟨rfl, Nx.refl _, fun h => by cases h⟩
  · intro C i v s3 m3 E' hC hP _ N3 hm3 k3
    have k3' : Kp s.heap s3.heap := fun b o e => k3 b o (nI b o e) (Heap.get?_push_of_some _ e)
    have hi' : i < l.length := by have := (Array.getElem?_eq_some_iff.mp hP).1; omega
    obtain ⟨t, e⟩ := ints_get hi (i := i) (k := l[i]) (List.getElem?_eq_getElem hi')
    rw [e] at hP
    cases hP
    have hk5 := h5 _ (List.getElem_mem hi')
    have B3 := B.kp k3'
    refine Subscript_ ?_
    refine wpAny_Name (wpAny_loadName_cell (by kernel_rfl) (by kernel_rfl) (by rfl) B3.cT ?_)
    refine nm_local N3 hm3 ?_ (by kernel_rfl) (by kernel_rfl)
    refine item_at (v := .ref (tA l[i])) B3.tl.isList (by omega) (by omega) ?_ ?_ (by kernel_rfl)
    · have : ∀ k, k < 5 → ((([0, 1, 2, 3, 4].map tA).map Value.ref).toArray)[k]? = some (.ref (tA k)) := by
        intro k hk
        match k, hk with
        | 0, _ => rfl
        | 1, _ => rfl
        | 2, _ => rfl
        | 3, _ => rfl
        | 4, _ => rfl
      simpa using this _ hk5
    · exact ⟨⟨[], ⟨by simp [vNat], rfl⟩, fun q hq => by cases hq⟩, Nx.refl _, fun k e => by cases e⟩
  · intro s5 zs vs pl5 hlen5 hP hM k5 g5 d5 o5 _
    refine hQ _ s5 ⟨fun b o e => k5 b o (nI b o e) (Heap.get?_push_of_some _ e), g5, d5, o5⟩ ?_
    have : zs = ((l.map tA).map Value.ref).toArray := by
      apply arr_of
      have e1 : vs = ys.toList := vs_items hlen5 hP
      subst e1
      rw [List.filter_eq_self.mpr (fun _ _ => rfl)] at hM
      rw [made_map hM, ← ints_nat hi, List.map_map, List.map_map]
      rfl
    rw [this] at pl5
    exact pl5
end
end Mine

set_option maxRecDepth 100000
set_option maxHeartbeats 1000000
namespace Mine
open PySem.Calls Builtin
def rkN (nm : Nat → Str) (j k : Nat) : Int := rk (cp (nm j)) (cp (nm k))
def fiveA (r : Int) : Array Value := #[.bool (askOp .Lt r), .bool (askOp .Gt r), .bool (askOp .LtE r), .bool (askOp .GtE r), .bool (askOp .Eq r)]
abbrev lobj (xs : Array Value) (n : Nat) : Obj := { cls := .type "list", data := .seq xs n }
theorem th_get : ∀ k, k < 5 → ((([0, 1, 2, 3, 4].map tA).map Value.ref).toArray)[k]? = some (.ref (tA k)) := by
  intro k hk
  match k, hk with
  | 0, _ => rfl
  | 1, _ => rfl
  | 2, _ => rfl
  | 3, _ => rfl
  | 4, _ => rfl

section
variable {w : World} {A : Around} {s : Shared} {Q E : Value → Shared → Prop} {nm tt : Nat → Str} {env : Env}
theorem rd_things {e1 e2 : Expr} {pos : Pos} {k : Nat} (B : BF w nm tt s.heap) (hk : k < 5) (h1 : ∀ Q', Q' (.ref 233) s → wpAny (MM w) A (eval e1 env) Q' E s)
    (h2 : ∀ Q', (∀ u z, Q' (.int (k : Nat) u) { s with toks := z }) → wpAny (MM w) A (eval e2 env) Q' E s)
    (hQ : ∀ z, Q (.ref (tA k)) { s with toks := z }) (he : ∀ v i, subscripted e2 false v i = operate [v, i] (getItem v i) := by intro _ _; kernel_rfl) :
    wpAny (MM w) A (eval (.Subscript e1 e2 pos) env) Q E s := by
  refine Subscript_ ?_
  refine h1 _ ?_
  refine h2 _ fun u z => ?_
  exact item_at (s := { s with toks := z }) B.tl.isList (by omega) (by omega) (by simpa using th_get k hk) (hQ z) (he _ _)
theorem rd_names2 {e1 e2 : Expr} {pos : Pos} {k : Nat} (B : BF w nm tt s.heap) (hk : k < 5) (h1 : ∀ Q', Q' (.ref 177) s → wpAny (MM w) A (eval e1 env) Q' E s)
    (h2 : ∀ Q', (∀ u z, Q' (.int (k : Nat) u) { s with toks := z }) → wpAny (MM w) A (eval e2 env) Q' E s)
    (hQ : ∀ t z, Q (.str (nm k) t) { s with toks := z }) (he : ∀ v i, subscripted e2 false v i = operate [v, i] (getItem v i) := by intro _ _; kernel_rfl) :
    wpAny (MM w) A (eval (.Subscript e1 e2 pos) env) Q E s := by
  refine Subscript_ ?_
  refine h1 _ ?_
  refine h2 _ fun u z => ?_
  obtain ⟨items, pl, _, r⟩ := B.nl
  obtain ⟨t, e⟩ := r k hk
  exact item_at (s := { s with toks := z }) pl.isList (by omega) (by omega) (by simpa using e) (hQ t z) (he _ _)
/-- k + 1 -/
theorem succ_k {m : Str → Option Value} {p1 p2 p3 : Pos} {q : Nat} {k : Nat} {t : Tok} (N : s.heap.Ns env.locals m) (hm : m "k" = some (.int (k : Nat) t)) (hk : env.scope.kind = .function) (hx : env.kindOf "k" = some .local)
    (hQ : ∀ u z, Q (.int ((k + 1 : Nat) : Int) u) { s with toks := z }) : wpAny (MM w) A (eval (.BinOp (.Name "k" p1) .Add (.Constant (.int 1) q p2) p3) env) Q E s := by
  refine wpAny_BinOp ?_
  refine nm_local N hm ?_ hk hx
  refine wpAny_Constant_int ?_
  refine P.add_int ?_
  exact hQ _ _

/-- the five answers of the keys -/
theorem fiveK_e (ok : Okay 9 A) (B : BF w nm tt s.heap) (hQ : ∀ D s' ys vs, Nx s s' → s'.heap.PlainList D ys → vs.length = 3 → (∀ (j : Nat) (v : Value), vs[j]? = some v → j < 3 ∧ ∃ t, v = Value.int (j : Nat) t) →
      Made (fun v y f => ∃ T n, y = .ref T ∧ f = [(T, lobj (fiveA (rk (cp (capw (tt (vNat v)))) (cp (capw (tt (vNat v + 1)))))) n)]) (s.heap.objs.size + 4) s'.heap vs ys.toList → Q (.ref D) s') :
    wpAny (MM w) A (eval (leftOf (testOf (stAt lawB 11))) (LE w)) Q E s := by
  refine lc_z (x := "k") (cl := [("things", 79), ("key", 82)]) (fun _ => true) (fun v y f => ∃ T n, y = .ref T ∧ f = [(T, lobj (fiveA (rk (cp (capw (tt (vNat v)))) (cp (capw (tt (vNat v + 1)))))) n)]) none (by kernel_rfl) (by kernel_rfl) (by kernel_rfl) (by kernel_rfl) (by kernel_rfl) ?_
  refine range_iter (n := 3) B.X (by kernel_rfl) (by kernel_rfl) (by kernel_rfl) (by kernel_rfl) (by kernel_rfl) (by kernel_rfl) fun h1 tk1 z1 k1 ri1 => ?_
  have nI : ∀ b o, s.heap.get? b = some o → b ≠ s.heap.objs.size + 1 := fun b o e => Nat.ne_of_lt (Nat.lt_succ_of_lt (Heap.lt_size e))
  refine ⟨_, _, 3, _, _, rfl, WalkZ.range ok.hd (s.heap.objs.size + 1) 3, by decide, ri1, ?_, ⟨?_, ?_⟩, ?_⟩
  · intro b hb
    rw [List.mem_singleton] at hb
    show b < h1.objs.size
    rw [hb, z1]; exact Nat.lt_succ_self _
  · intro C i v s3 m3 E' _ _ _ _ _
    exact wpAny_tests_nil ⟨rfl, Nx.refl _, fun h => by cases h⟩
  · rintro C i _ s3 m3 E' hC ⟨hi, ti, rfl⟩ _ N3 hm3 k3
    have k3' : Kp s.heap s3.heap := fun b o e => k3 b o (nI b o e) (k1 _ _ e)
    have B3 := B.kp k3'
    refine Call_ ?_ (by kernel_rfl)
    refine nm_glob (w := w) B3.X (v := .ref 69) (by kernel_rfl) ?_ (by kernel_rfl) (by kernel_rfl) (by kernel_rfl)
    refine callWith_def (o := ob w 69) (fd := fdAt w 69) (by kernel_rfl) ?_ (by kernel_rfl)
    refine args_cons ?_ (by kernel_rfl)
    refine key_call (a := tA i) (ok.le (by decide)) B3.X B3.C (fun Q' hq => wpAny_Name (wpAny_loadName_cell (by kernel_rfl) (by kernel_rfl) (by rfl) B3.cK hq)) (fun Q' hq => ?_) ?_
    · exact rd_things B3 (by omega) (fun Q'' hq' => wpAny_Name (wpAny_loadName_cell (by kernel_rfl) (by kernel_rfl) (by rfl) B3.cT hq')) (fun Q'' hq' => nm_local N3 hm3 (hq' ti s3.toks) (by kernel_rfl) (by kernel_rfl)) hq
    intro x4 s4 nx4 i4
    have B4 := B3.kp nx4.kp
    refine args_cons ?_ (by kernel_rfl)
    refine key_call (a := tA (i + 1)) (ok.le (by decide)) B4.X B4.C (fun Q' hq => wpAny_Name (wpAny_loadName_cell (by kernel_rfl) (by kernel_rfl) (by rfl) B4.cK hq)) (fun Q' hq => ?_) ?_
    · exact rd_things B4 (by omega) (fun Q'' hq' => wpAny_Name (wpAny_loadName_cell (by kernel_rfl) (by kernel_rfl) (by rfl) B4.cT hq')) (fun Q'' hq' => succ_k (N3.keeps nx4.kp) hm3 (by kernel_rfl) (by kernel_rfl) hq') hq
    intro x5 s5 nx5 i5
    have B5 := B4.kp nx5.kp
    refine args_nil ?_
    refine ⟨ob_at B5.X 69 (by kernel_rfl), ?_⟩
    refine five_c (n := 7) (f := fun op => askOp op (rk (cp (capw (tt i))) (cp (capw (tt (i + 1)))))) B5.X (fun op hop => ?_) _ _ _ _ (ok.le (by decide)) (Kp.refl _) ?_
    · exact cmp_c cap_c B5.X B5.C (i4.kp nx5.kp) i5 (B5.title (by omega)) (B5.title (by omega)) op (by simp only [List.mem_cons, List.not_mem_nil, or_false] at hop ⊢; rcases hop with rfl | rfl | rfl | rfl | rfl <;> simp)
    · intro D s6 nx6 pl6 hD
      obtain ⟨n6, e6⟩ := pl6
      have hC5 : C < s5.heap.objs.size := ((N3.keeps nx4.kp).keeps nx5.kp).lt
      refine ⟨⟨[(D, lobj (fiveA (rk (cp (capw (tt i))) (cp (capw (tt (i + 1)))))) n6)], ⟨D, n6, rfl, by simp [vNat]⟩, fun q hq => ?_⟩, nx4.trans (nx5.trans nx6), fun k e => by cases e⟩
      rw [List.mem_singleton] at hq
      subst hq
      exact ⟨e6, Nat.lt_of_lt_of_le hC5 hD⟩
  · intro s5 zs vs pl5 hlen5 hP hM k5 g5 d5 o5 _
    refine hQ _ s5 zs vs ⟨fun b o e => k5 b o (nI b o e) (k1 _ _ e), g5, d5, o5⟩ pl5 hlen5 hP ?_
    rw [List.filter_eq_self.mpr (fun _ _ => rfl)] at hM
    dsimp only at hM
    rw [z1] at hM
    exact hM
/-- the five answers of the names -/
theorem fiveN_e (ok : Okay 9 A) (B : BF w nm tt s.heap) (hQ : ∀ D s' ys vs, Nx s s' → s'.heap.PlainList D ys → vs.length = 3 → (∀ (j : Nat) (v : Value), vs[j]? = some v → j < 3 ∧ ∃ t, v = Value.int (j : Nat) t) →
      Made (fun v y f => ∃ T n, y = .ref T ∧ f = [(T, lobj (fiveA (rkN nm (vNat v) (vNat v + 1))) n)]) (s.heap.objs.size + 4) s'.heap vs ys.toList → Q (.ref D) s') :
    wpAny (MM w) A (eval (rightOf (testOf (stAt lawB 11))) (LE w)) Q E s := by
  refine lc_z (x := "k") (cl := [("names", 78)]) (fun _ => true) (fun v y f => ∃ T n, y = .ref T ∧ f = [(T, lobj (fiveA (rkN nm (vNat v) (vNat v + 1))) n)]) none (by kernel_rfl) (by kernel_rfl) (by kernel_rfl) (by kernel_rfl) (by kernel_rfl) ?_
  refine range_iter (n := 3) B.X (by kernel_rfl) (by kernel_rfl) (by kernel_rfl) (by kernel_rfl) (by kernel_rfl) (by kernel_rfl) fun h1 tk1 z1 k1 ri1 => ?_
  have nI : ∀ b o, s.heap.get? b = some o → b ≠ s.heap.objs.size + 1 := fun b o e => Nat.ne_of_lt (Nat.lt_succ_of_lt (Heap.lt_size e))
  refine ⟨_, _, 3, _, _, rfl, WalkZ.range ok.hd (s.heap.objs.size + 1) 3, by decide, ri1, ?_, ⟨?_, ?_⟩, ?_⟩
  · intro b hb
    rw [List.mem_singleton] at hb
    show b < h1.objs.size
    rw [hb, z1]; exact Nat.lt_succ_self _
  · intro C i v s3 m3 E' _ _ _ _ _
    exact wpAny_tests_nil ⟨rfl, Nx.refl _, fun h => by cases h⟩
  · rintro C i _ s3 m3 E' hC ⟨hi, ti, rfl⟩ _ N3 hm3 k3
    have k3' : Kp s.heap s3.heap := fun b o e => k3 b o (nI b o e) (k1 _ _ e)
    have B3 := B.kp k3'
    refine Call_ ?_ (by kernel_rfl)
    refine nm_glob (w := w) B3.X (v := .ref 69) (by kernel_rfl) ?_ (by kernel_rfl) (by kernel_rfl) (by kernel_rfl)
    refine callWith_def (o := ob w 69) (fd := fdAt w 69) (by kernel_rfl) ?_ (by kernel_rfl)
    refine args_cons ?_ (by kernel_rfl)
    refine rd_names2 B3 (k := i) (by omega) (fun Q'' hq' => wpAny_Name (wpAny_loadName_cell (by kernel_rfl) (by kernel_rfl) (by rfl) B3.cN hq')) (fun Q'' hq' => nm_local N3 hm3 (hq' ti s3.toks) (by kernel_rfl) (by kernel_rfl)) fun t4 z4 => ?_
    refine args_cons ?_ (by kernel_rfl)
    refine rd_names2 (s := { s3 with toks := z4 }) B3 (k := i + 1) (by omega) (fun Q'' hq' => wpAny_Name (wpAny_loadName_cell (by kernel_rfl) (by kernel_rfl) (by rfl) B3.cN hq')) (fun Q'' hq' => succ_k (s := { s3 with toks := z4 }) N3 hm3 (by kernel_rfl) (by kernel_rfl) hq') fun t5 z5 => ?_
    refine args_nil ?_
    refine ⟨ob_at B3.X 69 (by kernel_rfl), ?_⟩
    refine five_c (n := 7) (f := fun op => askOp op (rkN nm i (i + 1))) B3.X (fun op hop => co_str op hop) _ _ _ _ (ok.le (by decide)) (Kp.refl _) ?_
    · intro D s6 nx6 pl6 hD
      obtain ⟨n6, e6⟩ := pl6
      have hC5 : C < s3.heap.objs.size := N3.lt
      refine ⟨⟨[(D, lobj (fiveA (rkN nm i (i + 1))) n6)], ⟨D, n6, rfl, by simp [vNat]⟩, fun q hq => ?_⟩, ⟨nx6.kp, nx6.gens, nx6.dr, nx6.os⟩, fun k e => by cases e⟩
      rw [List.mem_singleton] at hq
      subst hq
      exact ⟨e6, Nat.lt_of_lt_of_le hC5 hD⟩
  · intro s5 zs vs pl5 hlen5 hP hM k5 g5 d5 o5 _
    refine hQ _ s5 zs vs ⟨fun b o e => k5 b o (nI b o e) (k1 _ _ e), g5, d5, o5⟩ pl5 hlen5 hP ?_
    rw [List.filter_eq_self.mpr (fun _ _ => rfl)] at hM
    dsimp only at hM
    rw [z1] at hM
    exact hM
end
end Mine

set_option maxRecDepth 100000
set_option maxHeartbeats 1000000
namespace Mine
open PySem.Calls Builtin

section
variable {w : World} {A : Around} {s : Shared} {Q E : Value → Shared → Prop} {nm tt : Nat → Str}
theorem all_tt (n : Nat) : ((List.range n).all fun _ => true) = true := by simp
theorem ne_same {a b : Addr} {xs : Array Value} (ok : Okay 0 A) (ha : s.heap.IsList a xs) (hb : s.heap.IsList b xs) (hQ : Q (.bool false) s) : wpAny (MM w) A (compareOp .NotEq (.ref a) (.ref b)) Q E s := by
  have hu : A.units < cLine := by have := ok.un; show A.units < 9900; omega
  have := PySem.SeqAt.RcNeAt.lists (A := A) (e := fun _ => true) ha hb rfl hu (fun j h1 h2 => PySem.SeqAt.EqAt.same _) PR w E Q
  refine this ?_
  rw [all_tt]
  exact hQ

theorem made_get {F : Value → Value → List (Addr × Obj) → Prop} {B : Nat} {h : Heap} : ∀ {vs ys : List Value}, Made F B h vs ys → ∀ (i : Nat) (v y : Value), vs[i]? = some v → ys[i]? = some y → ∃ f, F v y f ∧ ∀ q ∈ f, h.get? q.1 = some q.2
  | _, _, .nil, i, a, b, h, _ => by simp at h
  | _, _, .cons h p t, 0, a, b, h1, h2 => by simp at h1 h2; subst h1 h2; exact ⟨_, h, fun q hq => (p q hq).1⟩
  | _, _, .cons h p t, i + 1, a, b, h1, h2 => made_get t i a b (by simpa using h1) (by simpa using h2)

/-- a value is a list of five answers -/
def IsFive (h : Heap) (r : Int) (y : Value) : Prop := ∃ T n, y = .ref T ∧ h.get? T = some (lobj (fiveA r) n)
theorem IsFive.kp {h h' : Heap} {r : Int} {y : Value} (x : IsFive h r y) (k : Kp h h') : IsFive h' r y := let ⟨T, n, e, e'⟩ := x; ⟨T, n, e, k _ _ e'⟩
theorem ne_five {a b : Addr} {xs ys : Array Value} (ok : Okay 1 A) (hx : xs.size = 3) (hy : ys.size = 3) (ha : s.heap.IsList a xs) (hb : s.heap.IsList b ys) (rr : Nat → Int)
    (h1 : ∀ j (h : j < xs.size), IsFive s.heap (rr j) xs[j]) (h2 : ∀ j (h : j < ys.size), IsFive s.heap (rr j) ys[j]) (hQ : Q (.bool false) s) : wpAny (MM w) A (compareOp .NotEq (.ref a) (.ref b)) Q E s := by
  have hu : A.units < cLine := by have := ok.un; show A.units < 9900; omega
  have hu1 : A.in1.units < cLine := by have := ok.un; show A.units + 1 < 9900; omega
  have := PySem.SeqAt.RcNeAt.lists (A := A) (e := fun _ => true) ha hb (by rw [hx, hy]) hu (fun j g1 g2 => by
    obtain ⟨T, n, e, e'⟩ := h1 j g1
    obtain ⟨T', n', f, f'⟩ := h2 j g2
    rw [e, f]
    by_cases hT : T = T'
    · rw [hT]; exact PySem.SeqAt.EqAt.same _
    · refine PySem.SeqAt.EqAt.of_refs hT ?_
      have q := PySem.SeqAt.RcAt.lists (A := A.in1) (s := s) (l := T) (b := T') (items := fiveA (rr j)) (items2 := fiveA (rr j)) (e := fun _ => true) ⟨_, e', rfl, n, rfl⟩ ⟨_, f', rfl, n', rfl⟩ rfl hu1 (fun i g1 g2 => PySem.SeqAt.EqAt.same _)
      rw [all_tt] at q
      exact q) PR w E Q
  refine this ?_
  rw [all_tt]
  exact hQ

/-- the written line of the names -/
def liveN (nm : Nat → Str) (l : List Nat) : List Str := (l.filter fun k => !decide (cp (nm k) = [])).map nm
theorem namesL_e {dl : Addr} {ys : Array Value} {l : List Nat} {m : Str → Option Value} (ok : Okay 2 A) (B : BF w nm tt s.heap) (N : s.heap.Ns 76 m) (hm : m "due" = some (.ref dl)) (hl : s.heap.PlainList dl ys) (hi : Ints l ys.toList) (h5 : ∀ k ∈ l, k < 5) (hlen : l.length ≤ 1000)
    (hQ : ∀ D s' (zs : List (Str × Tok)), Nx s s' → s'.heap.PlainList D (strValues zs).toArray → zs.map (·.1) = liveN nm l → Q (.ref D) s') :
    wpAny (MM w) A (eval (argOf 0 (rightOf (retOf (stAt lawB 14)))) (LE w)) Q E s := by
  refine lc_z (x := "k") (cl := [("names", 78)]) (fun v => !decide (cp (nm (vNat v)) = [])) (fun v y f => (∃ t, y = .str (nm (vNat v)) t) ∧ f = []) none (by kernel_rfl) (by kernel_rfl) (by kernel_rfl) (by kernel_rfl) (by kernel_rfl) ?_
  refine nm_local N hm ?_ (by kernel_rfl) (by kernel_rfl)
  refine wpAny_pyIter_list hl.isList ?_
  have nI : ∀ b o, s.heap.get? b = some o → b ≠ s.heap.objs.size := fun b o e => Nat.ne_of_lt (Heap.lt_size e)
  have hne : dl ≠ s.heap.objs.size := by obtain ⟨n, e⟩ := hl; exact nI _ _ e
  have hsz : ys.size = l.length := by have := pr_len hi; simpa using this
  refine ⟨_, _, ys.size, _, _, rfl, WalkZ.list ok.hd s.heap.objs.size dl hne ys, by omega, ⟨⟨_, Heap.get?_push_size _ rfl, rfl, rfl⟩, hl.isList.push _⟩, ?_, ⟨?_, ?_⟩, ?_⟩
  · intro b hb
    simp only [List.mem_cons, List.not_mem_nil, or_false] at hb
    show b < (s.heap.push _).objs.size
    rw [Heap.size_push]
    rcases hb with rfl | rfl
    · exact Nat.lt_succ_self _
    · obtain ⟨n, e⟩ := hl; exact Nat.lt_succ_of_lt (Heap.lt_size e)
  · intro C i v s3 m3 E' hC hP N3 hm3 k3
    have k3' : Kp s.heap s3.heap := fun b o e => k3 b o (nI b o e) (Heap.get?_push_of_some _ e)
    have hi' : i < l.length := by have := (Array.getElem?_eq_some_iff.mp hP).1; omega
    obtain ⟨t, e⟩ := ints_get hi (i := i) (k := l[i]) (List.getElem?_eq_getElem hi')
    rw [e] at hP
    cases hP
    have B3 := B.kp k3'
    refine wpAny_tests_one ?_
    refine wpAny_isTrue_Compare1 ?_
    refine rd_names2 B3 (k := l[i]) (h5 _ (List.getElem_mem hi')) (fun Q'' hq' => wpAny_Name (wpAny_loadName_cell (by kernel_rfl) (by kernel_rfl) (by rfl) B3.cN hq')) (fun Q'' hq' => nm_local N3 hm3 (hq' t s3.toks) (by kernel_rfl) (by kernel_rfl)) fun t4 z4 => ?_
    refine wpAny_Constant_str ?_
    refine P.ne_str ?_
    refine wpAny_truthy_bool ?_
    refine ⟨?_, ⟨Kp.refl _, rfl, rfl, rfl⟩, fun h => by cases h⟩
    rw [Bool.eq_iff_iff]
    have e0 : (Str.ofString "").cps = #[] := by kernel_rfl
    simp [vNat, e0]
  · intro C i v s3 m3 E' hC hP _ N3 hm3 k3
    have k3' : Kp s.heap s3.heap := fun b o e => k3 b o (nI b o e) (Heap.get?_push_of_some _ e)
    have hi' : i < l.length := by have := (Array.getElem?_eq_some_iff.mp hP).1; omega
    obtain ⟨t, e⟩ := ints_get hi (i := i) (k := l[i]) (List.getElem?_eq_getElem hi')
    rw [e] at hP
    cases hP
    have B3 := B.kp k3'
    refine rd_names2 B3 (k := l[i]) (h5 _ (List.getElem_mem hi')) (fun Q'' hq' => wpAny_Name (wpAny_loadName_cell (by kernel_rfl) (by kernel_rfl) (by rfl) B3.cN hq')) (fun Q'' hq' => nm_local N3 hm3 (hq' t s3.toks) (by kernel_rfl) (by kernel_rfl)) fun t4 z4 => ?_
    exact ⟨⟨[], ⟨⟨t4, by simp [vNat]⟩, rfl⟩, fun q hq => by cases hq⟩, ⟨Kp.refl _, rfl, rfl, rfl⟩, fun k e => by cases e⟩
  · intro s5 zs vs pl5 hlen5 hP hM k5 g5 d5 o5 _
    have e1 : vs = ys.toList := vs_items hlen5 hP
    subst e1
    have key : ∀ {vs zs : List Value} {B : Nat} {h : Heap}, Made (fun v y f => (∃ t, y = Value.str (nm (vNat v)) t) ∧ f = []) B h vs zs → ∃ ws : List (Str × Tok), strValues ws = zs ∧ ws.map (·.1) = vs.map fun v => nm (vNat v) := by
      intro vs zs B h hM
      induction hM with
      | nil => exact ⟨[], rfl, rfl⟩
      | cons a _ _ ih =>
        obtain ⟨⟨t, rfl⟩, _⟩ := a
        obtain ⟨ws, e, e'⟩ := ih
        exact ⟨(_, t) :: ws, by rw [← e]; rfl, by rw [List.map_cons, e']; rfl⟩
    obtain ⟨ws, e, e'⟩ := key hM
    refine hQ _ s5 ws ⟨fun b o e => k5 b o (nI b o e) (Heap.get?_push_of_some _ e), g5, d5, o5⟩ ?_ ?_
    · rw [e]; simpa using pl5
    · rw [e']
      unfold liveN
      rw [← ints_nat hi, List.filter_map, List.map_map]
      rfl
end
end Mine

set_option maxRecDepth 100000
set_option maxHeartbeats 1000000
namespace Mine
open PySem.Calls Builtin

/-! ## facts of the written part -/
noncomputable def gEs (w : World) : Array DictEntry := match (ob w 3).data with | .dict es _ => es | _ => #[]
noncomputable def gN (w : World) : Nat := match (ob w 3).data with | .dict _ n => n | _ => 0
def strKey : Value → Bool | .str _ _ => true | _ => false
theorem ns3 {w : World} {h : Heap} (X : (KK w).In h) : h.Ns 3 (fun x => nsFind (gEs w) x) := by
  refine ⟨ob w 3, gEs w, gN w, ob_at X 3 (by kernel_rfl), by kernel_rfl, ?_, fun _ => rfl⟩
  have h1 : (gEs w).all (fun e => strKey e.key) = true := by kernel_rfl
  intro e he
  have := Array.all_eq_true'.mp h1 e he
  cases hk : e.key <;> rw [hk] at this <;> first | exact ⟨_, _, rfl⟩ | cases this

noncomputable def bmOf (w : World) : Addr := match nsFind (gEs w) "__builtins__" with | some (.ref b) => b | _ => 0
theorem bm_at {w : World} {h : Heap} (X : (KK w).In h) : h.BuiltinsAt (fun x => nsFind (gEs w) x) 71 := by
  have e : (KK w).lookup (bmOf w) = some (ob w (bmOf w)) := by kernel_rfl
  have n1 : Nat.beq (bmOf w) 0 = false := by kernel_rfl
  have n2 : Nat.beq (bmOf w) 3 = false := by kernel_rfl
  have n3 : Nat.beq (bmOf w) 71 = false := by kernel_rfl
  exact ⟨bmOf w, ob w (bmOf w), by kernel_rfl, Nat.ne_of_beq_eq_false n1, Nat.ne_of_beq_eq_false n2, Nat.ne_of_beq_eq_false n3, ob_at X _ e, by kernel_rfl, by kernel_rfl, by kernel_rfl⟩
noncomputable def lcV (w : World) : Array Value := match (ob w 73).data with | .fields vs => vs | _ => #[]
def sOf : Value → Str | .str s _ => s | _ => default
def tOf : Value → Tok | .str _ t => t | .int _ t => t | _ => 0
def iOf : Value → Int | .int i _ => i | _ => 0
def bOf : Value → Bool | .bool b => b | _ => false
theorem lawCode {w : World} {h : Heap} (X : (KK w).In h) : CodeHd h 73 71 :=
  ⟨ob w 73, lcV w, sOf ((lcV w).getD 18 .none), tOf ((lcV w).getD 18 .none), iOf ((lcV w).getD 7 .none), tOf ((lcV w).getD 7 .none), bOf ((lcV w).getD 9 .none), iOf ((lcV w).getD 10 .none), tOf ((lcV w).getD 10 .none),
    ob_at X 73 (by kernel_rfl), by kernel_rfl, by kernel_rfl, by kernel_rfl, by kernel_rfl, by kernel_rfl, by kernel_rfl, by kernel_rfl, by kernel_rfl, by decide⟩

def posOf : Expr → Pos | .Lambda _ _ _ p => p | _ => ⟨0, 0, 0, 0⟩
theorem mk_lam {w : World} {A : Around} {s : Shared} {Q E : Value → Shared → Prop} {ps : Array Value} {p : Arguments} {b : Expr} {sc : Scope} {pos : Pos} (X : (KK w).In s.heap) (hP : s.heap.get? 71 = some (tabObj ps)) (ht : TriplesOk ps.toList) (hnf : codeAmong pos ps.toList = none)
    (hcl : closureFor sc (LE w) = pure [(Str.ofString "key", (82 : Addr))]) (hdef : defaultsOf p (LE w) = ([], []))
    (hQ : ∀ f c' ct pm s', Heap.ExtBut 71 s.heap s'.heap → s'.heap.get? f = some ⟨.type "function", none, .func (kla_fn "<lambda>" "law.<locals>.<lambda>" p b sc [("key", 82)] pm (.ref c') ct), #[]⟩ → s'.heap.CodeRec (.ref c') "law.<locals>.<lambda>" →
      s'.heap.get? 71 = some (tabObj (ps ++ #[rawInt pos.line, rawInt pos.col, .ref c'])) → s'.gens = s.gens → s'.drawn = s.drawn → s'.os = s.os → Q (.ref f) s') :
    wpAny (MM w) A (eval (.Lambda p b sc pos) (LE w)) Q E s := by
  refine kla_eval hdef ?_
  have hq : (LE w).qual ++ ("<lambda>" : Str) = ("law.<locals>.<lambda>" : Str) := by kernel_rfl
  rw [hq]
  refine kla_makeFunction (mg := fun x => nsFind (gEs w) x) hcl (by kernel_rfl) (ns3 X) (by kernel_rfl) (lawCode X) hP ht hnf (by decide) (bm_at X) fun c' ctv h' tk hx hge hlt hrec htb => ?_
  obtain ⟨c2, oc, vs, t, e2, hoc, hd, hv⟩ := hrec
  refine hQ _ c' ctv _ _ (fun b o hb e => Heap.get?_push_of_some _ (hx b o hb e)) (Heap.get?_push_size _ rfl) ⟨c2, oc, vs, t, e2, Heap.get?_push_of_some _ hoc, hd, hv⟩ (Heap.get?_push_of_some _ htb) rfl rfl rfl

/-! ## the law's state -/
def Kb (h h' : Heap) : Prop := ∀ b o, b ≠ 71 → b ≠ 76 → b ≠ 80 → b ≠ 81 → h.get? b = some o → h'.get? b = some o
theorem tA_ne (k : Nat) {a : Nat} (h : a < 235) : tA k ≠ a := Nat.ne_of_gt (Nat.lt_of_lt_of_le h (Nat.le_add_right _ _))
theorem CF.kb {h h' : Heap} (C : CF h) (k : Kb h h') : CF h' := by
  obtain ⟨⟨a1, a2, a3⟩, ⟨b1, b2, b3, b4⟩, ⟨c1, c2⟩, d, ⟨e1, e2⟩, ⟨f1, f2, f3⟩, ⟨g1, g2⟩, ⟨i1, i2, i3⟩, ⟨j1, j2⟩, ⟨l1, l2, l3⟩, ⟨m1, m2⟩, ⟨n1, n2, n3⟩, ⟨o1, o2⟩, ⟨p1, p2, p3⟩, ⟨q1, q2⟩, ⟨r1, r2, r3⟩⟩ := C
  have k' : ∀ b o, Nat.blt 81 b = true → h.get? b = some o → h'.get? b = some o := fun b o hb e => by
    have hb' : 81 < b := Nat.blt_eq.mp hb
    exact k b o (Nat.ne_of_gt (Nat.lt_trans (by decide) hb')) (Nat.ne_of_gt (Nat.lt_trans (by decide) hb')) (Nat.ne_of_gt (Nat.lt_trans (by decide) hb')) (Nat.ne_of_gt hb') e
  exact ⟨⟨a1, a2, k' _ _ rfl a3⟩, ⟨b1, b2, b3, k' _ _ rfl b4⟩, ⟨c1, k' _ _ rfl c2⟩, k' _ _ rfl d, ⟨e1, k' _ _ rfl e2⟩, ⟨f1, f2, k' _ _ rfl f3⟩, ⟨g1, k' _ _ rfl g2⟩, ⟨i1, i2, k' _ _ rfl i3⟩, ⟨j1, k' _ _ rfl j2⟩, ⟨l1, l2, k' _ _ rfl l3⟩, ⟨m1, k' _ _ rfl m2⟩, ⟨n1, n2, k' _ _ rfl n3⟩, ⟨o1, k' _ _ rfl o2⟩, ⟨p1, p2, k' _ _ rfl p3⟩, ⟨q1, k' _ _ rfl q2⟩, ⟨r1, r2, k' _ _ rfl r3⟩⟩
theorem KK_keys {w : World} {a : Addr} {o : Obj} (h : (KK w).lookup a = some o) : a < 76 ∧ a ≠ 71 ∧ a ≠ 16 := by
  have h1 : (KK w).all (fun p => decide (p.1 < 76) && (!(Nat.beq p.1 71) && !(Nat.beq p.1 16))) = true := by kernel_rfl
  have hm : (a, o) ∈ KK w := by
    have gen : ∀ (l : Frag), l.lookup a = some o → (a, o) ∈ l := by
      intro l
      induction l with
      | nil => intro h; cases h
      | cons p r ih =>
        intro h
        obtain ⟨k, v⟩ := p
        rw [List.lookup_cons] at h
        split at h
        · rename_i z; cases h; rw [beq_iff_eq.mp z]; exact List.mem_cons_self
        · exact List.mem_cons_of_mem _ (ih h)
    exact gen _ h
  have := List.all_eq_true.mp h1 _ hm
  simp only [Bool.and_eq_true, decide_eq_true_eq, Bool.not_eq_true'] at this
  exact ⟨this.1, Nat.ne_of_beq_eq_false this.2.1, Nat.ne_of_beq_eq_false this.2.2⟩
theorem In_kb {w : World} {h h' : Heap} (X : (KK w).In h) (k : Kb h h') : (KK w).In h' := fun a o e => by
  obtain ⟨h1, h2, _⟩ := KK_keys e
  exact k a o h2 (Nat.ne_of_lt h1) (Nat.ne_of_lt (Nat.lt_of_lt_of_le h1 (by decide))) (Nat.ne_of_lt (Nat.lt_of_lt_of_le h1 (by decide))) (X a o e)
theorem BF.kb {w : World} {nm tt : Nat → Str} {h h' : Heap} (b : BF w nm tt h) (k : Kb h h') : BF w nm tt h' := by
  have c : ∀ {a : Addr} {v : Option Value}, a ≠ 71 → a ≠ 76 → a ≠ 80 → a ≠ 81 → h.IsCell a v → h'.IsCell a v := fun n1 n2 n3 n4 ⟨o, e, d⟩ => ⟨o, k _ _ n1 n2 n3 n4 e, d⟩
  have l : ∀ {a : Addr} {xs : Array Value}, a ≠ 71 → a ≠ 76 → a ≠ 80 → a ≠ 81 → h.PlainList a xs → h'.PlainList a xs := fun n1 n2 n3 n4 ⟨n, e⟩ => ⟨n, k _ _ n1 n2 n3 n4 e⟩
  refine ⟨In_kb b.X k, b.C.kb k, c (by decide) (by decide) (by decide) (by decide) b.cN, let ⟨i, p, z, r⟩ := b.nl; ⟨i, l (by decide) (by decide) (by decide) (by decide) p, z, r⟩, c (by decide) (by decide) (by decide) (by decide) b.cT, l (by decide) (by decide) (by decide) (by decide) b.tl, fun j hj => ?_, c (by decide) (by decide) (by decide) (by decide) b.cK⟩
  obtain ⟨z, t, t', n, e⟩ := b.th j hj
  exact ⟨z, t, t', n, k _ _ (tA_ne j (by decide)) (tA_ne j (by decide)) (tA_ne j (by decide)) (tA_ne j (by decide)) e⟩
end Mine

set_option maxRecDepth 100000
set_option maxHeartbeats 1000000
namespace Mine
open PySem.Calls Builtin

abbrev nmT (tt : Nat → Str) (k : Nat) : Str := capw (tt k)
def dueT (tt : Nat → Str) : List Nat := dueN (aheadN (ltN (nmT tt)) (nmT tt))
def backT (tt : Nat → Str) : List Nat := dueN (aheadN (gtN (nmT tt)) (nmT tt))
def ins1 (tt : Nat → Str) (ds : List Nat) (x : Nat) : List Nat := ds.filter (fun d => askOp .GtE (rkN (nmT tt) d x)) ++ [x] ++ ds.filter (fun d => !askOp .GtE (rkN (nmT tt) d x))
def ins3 (tt : Nat → Str) (ds : List Nat) (x : Nat) : List Nat := ds.filter (fun d => !askOp .Gt (rkN (nmT tt) d x)) ++ [x] ++ ds.filter (fun d => askOp .Gt (rkN (nmT tt) d x))
def pick (tt : Nat → Str) (a b : Nat) : Nat := if rkN (nmT tt) b a < 0 then b else a
def lineT (tt : Nat → Str) (l : List Nat) : Str := l.foldl (fun line k => capw (line ++ tab ++ tt k)) ⟨#[]⟩
/-- the plain law -/
structure PL (tt : Nat → Str) : Prop where
  ok : kOk (ltN (nmT tt)) 5 (kas_sort 5) = true
  row : (kRun (ltN (nmT tt)) (kas_sort 5)).toList = dueT tt
  due5 : ∀ k ∈ dueT tt, k < 5
  back5 : ∀ k ∈ backT tt, k < 5
  dueL : (dueT tt).length = 5
  backL : (backT tt).length ≤ 25
  back : [0, 1, 2, 3, 4].foldl (ins1 tt) [] = backT tt
  first : [1, 2, 3, 4].foldl (pick tt) 0 = (dueT tt).headD 0
  again : [1, 2, 3, 4].foldl (ins3 tt) [0] = dueT tt
  lineB : ∀ i, i ≤ 5 → (lineT tt ((dueT tt).take i)).length ≤ 100000
  joinB : JoinOk " " (liveN (nmT tt) (dueT tt)) = true
  line : cp (lineT tt (dueT tt)) = cp (Txt.join " " (liveN (nmT tt) (dueT tt)))

structure LS (w : World) (tt : Nat → Str) (s₀ : Shared) (m : Str → Option Value) (ps : Array Value) (s : Shared) : Prop where
  bf : BF w (nmT tt) tt s.heap
  ns : s.heap.Ns 76 m
  tb : s.heap.get? 71 = some (tabObj ps)
  old : ∀ b o, b < 76 → b ≠ 76 → b ≠ 71 → s₀.heap.get? b = some o → s.heap.get? b = some o
  gens : s.gens = s₀.gens
  dr : s.drawn = s₀.drawn
  os : s.os = s₀.os
theorem LS.nx {w : World} {tt : Nat → Str} {s₀ s s' : Shared} {m : Str → Option Value} {ps : Array Value} (L : LS w tt s₀ m ps s) (n : Nx s s') : LS w tt s₀ m ps s' :=
  ⟨L.bf.kp n.kp, L.ns.keeps n.kp, n.kp _ _ L.tb, fun b o h1 h2 h3 e => n.kp _ _ (L.old b o h1 h2 h3 e), n.gens.trans L.gens, n.dr.trans L.dr, n.os.trans L.os⟩

section
variable {w : World} {A : Around} {s s₀ : Shared} {E : Value → Shared → Prop} {Q : Flow → Shared → Prop} {tt : Nat → Str} {m : Str → Option Value} {ps : Array Value}
theorem law_cons {n n' : Nat} (h : wpAny (MM w) A (exec (stAt lawB n) (LE w)) (fun f s' => match f with | .next => wpAny (MM w) A (execs (lawB.drop n') (LE w)) Q E s' | f => Q f s') E s) (hn : lawB.drop n = stAt lawB n :: lawB.drop n') : wpAny (MM w) A (execs (lawB.drop n) (LE w)) Q E s := by
  rw [hn]; exact wpAny_execs_cons h
theorem cwb1 {x : Sem Value} {pos : Pos} {id : String} {first : List Value} {Q : Value → Shared → Prop} (h : wpAny (MM w) A x (fun v s₁ => wpAny (MM w) A (spliced []) (fun vs s₂ => wpAny (MM w) A (call (.builtin id) (first ++ v :: vs) []) Q E s₂) E s₁) E s) :
    wpAny (MM w) A (callWith pos (.builtin id) first [(false, x)] []) Q E s := callWith_builtin rfl (evalArgs_plain (spliced_cons h))
theorem st14 (ok : Okay 20 A) (pl : PL tt) (L : LS w tt s₀ m ps s) {rl dl : Addr} {ys : Array Value} (hr : m "row" = some (.ref rl)) (hrl : s.heap.PlainList rl (((dueT tt).map tA).map Value.ref).toArray)
    (hd : m "due" = some (.ref dl)) (hdl : s.heap.PlainList dl ys) (hi : Ints (dueT tt) ys.toList) (hQ : ∀ s', LS w tt s₀ m ps s' → Q (.ret (.bool true)) s') :
    wpAny (MM w) A (execs (lawB.drop 14) (LE w)) Q E s := by
  refine wpAny_execs_cons (wpAny_Return_some ?_)
  refine wpAny_Compare1 ?_
  refine Call_ ?_ (by kernel_rfl)
  refine nm_glob (w := w) L.bf.X (v := .ref 30) (by kernel_rfl) ?_ (by kernel_rfl) (by kernel_rfl) (by kernel_rfl)
  with_reducible refine callWith_def (o := ob w 30) (fd := fdAt w 30) (by kernel_rfl) ?_ (by kernel_rfl)
  refine args_cons ?_ (by kernel_rfl)
  refine nm_glob (w := w) L.bf.X (v := .ref 62) (by kernel_rfl) ?_ (by kernel_rfl) (by kernel_rfl) (by kernel_rfl)
  refine args_cons ?_ (by kernel_rfl)
  refine nm_local L.ns hr ?_ (by kernel_rfl) (by kernel_rfl)
  refine args_cons ?_ (by kernel_rfl)
  refine wpAny_Constant_str ?_
  refine args_nil ?_
  refine ⟨ob_at L.bf.X 30 (by kernel_rfl), ?_⟩
  have hz : (((dueT tt).map tA).map Value.ref).toArray.size = 5 := by simp [pl.dueL]
  refine (reduce_c (n := 5) (v0 := .str ⟨#[]⟩ s.toks) L.bf.X (ob_at L.bf.X 62 (by kernel_rfl)) (ffd := fdAt w 62) (by kernel_rfl) hrl.isList (fun i v _ => ∃ t, v = .str (lineT tt ((dueT tt).take i)) t) (fun _ _ _ _ _ h => h) ?step ⟨s.toks, rfl⟩ ?init).use (ok.le (by decide)) (Kp.refl _) ?_
  case step =>
    rintro i v x h' k hx ⟨t, rfl⟩
    have hi' : i < 5 := by have := (Array.getElem?_eq_some_iff.mp hx).1; omega
    have hil : i < (dueT tt).length := by rw [pl.dueL]; exact hi'
    have hx' : x = .ref (tA (dueT tt)[i]) := by
      simp [hil] at hx
      exact hx.symm
    subst hx'
    have B' := L.bf.kp k
    intro A' s' Q' E' ok' k' hq'
    refine line_c B'.X (pl.lineB i (by omega)) (B'.title (pl.due5 _ (List.getElem_mem hil))) A' s' Q' E' ok' k' fun v s'' nx h => hq' v s'' nx ?_
    obtain ⟨t', e⟩ := h
    refine ⟨t', e.trans ?_⟩
    have e2 : lineT tt ((dueT tt).take (i + 1)) = capw (lineT tt ((dueT tt).take i) ++ tab ++ tt (dueT tt)[i]) := by
      unfold lineT
      rw [List.take_add_one, List.getElem?_eq_getElem hil, List.foldl_append]
      rfl
    rw [e2]
  case init =>
    intro A s Q E k hq
    exact wpAny_is_other rfl (by intro e; cases e) hq
  rintro v s2 nx2 ⟨t2, rfl⟩
  rw [hz, show (dueT tt).take 5 = dueT tt from List.take_of_length_le (by rw [pl.dueL]; exact Nat.le_refl _)]
  have L2 : LS w tt s₀ m ps s2 := L.nx ⟨nx2.kp, nx2.gens, nx2.dr, nx2.os⟩
  with_reducible refine Call_method1 (by kernel_rfl) (by kernel_rfl) (by kernel_rfl) ?_
  refine wpAny_Constant_str ?_
  refine ⟨"str", "str.join", F.plainAttrs_str, F.slot_str_join, F.type_str_join, typeIs_str _ _ _, nref, ?_⟩
  with_reducible refine cwb1 ?_
  have L2' : LS w tt s₀ m ps { s2 with toks := s2.toks + 1 } := L2.nx ⟨Kp.refl _, rfl, rfl, rfl⟩
  refine namesL_e (ok.le (by decide)) L2'.bf L2'.ns hd (pl_kp hdl nx2.kp) hi pl.due5 (by rw [pl.dueL]; decide) ?_
  intro D s3 zs nx3 pl3 hzs
  refine spliced_nil ?_
  refine SC.join pl3.isList hzs pl.joinB fun t4 k4 => ?_
  refine P.eq_str ?_
  have e : (lineT tt (dueT tt)).cps.toList = (Txt.join " " (liveN (nmT tt) (dueT tt))).cps.toList := pl.line
  rw [show ((lineT tt (dueT tt)).cps.toList == (Txt.join " " (liveN (nmT tt) (dueT tt))).cps.toList) = true from by rw [e]; exact beq_self_eq_true _]
  exact hQ _ (L2'.nx ⟨nx3.kp, nx3.gens, nx3.dr, nx3.os⟩)
end
end Mine

set_option maxRecDepth 100000
set_option maxHeartbeats 4000000
namespace Mine
open PySem.Calls Builtin

/-! ## the plain law: the order of five names -/
def ltR (r : Nat → Nat) (i j : Nat) : Bool := Nat.blt (r i) (r j)
def gtR (r : Nat → Nat) (i j : Nat) : Bool := Nat.blt (r j) (r i)
def eqR (r : Nat → Nat) (i j : Nat) : Bool := Nat.beq (r i) (r j)
def rkR (r : Nat → Nat) (i j : Nat) : Int := if eqR r i j then 0 else if ltR r i j then -3 else 2
def aheadR (lt eq : Nat → Nat → Bool) (k : Nat) : Nat := ((List.range 5).filter fun j => lt j k || (eq j k && decide (j < k))).length
def dueR (r : Nat → Nat) : List Nat := dueN (aheadR (ltR r) (eqR r))
def backR (r : Nat → Nat) : List Nat := dueN (aheadR (gtR r) (eqR r))
def ins1R (r : Nat → Nat) (ds : List Nat) (x : Nat) : List Nat := ds.filter (fun d => askOp .GtE (rkR r d x)) ++ [x] ++ ds.filter (fun d => !askOp .GtE (rkR r d x))
def ins3R (r : Nat → Nat) (ds : List Nat) (x : Nat) : List Nat := ds.filter (fun d => !askOp .Gt (rkR r d x)) ++ [x] ++ ds.filter (fun d => askOp .Gt (rkR r d x))
def pickR (r : Nat → Nat) (a b : Nat) : Nat := if rkR r b a < 0 then b else a
structure Ord (r : Nat → Nat) : Prop where
  ok : kOk (ltR r) 5 (kas_sort 5) = true
  row : (kRun (ltR r) (kas_sort 5)).toList = dueR r
  due5 : ∀ k ∈ dueR r, k < 5
  back5 : ∀ k ∈ backR r, k < 5
  dueL : (dueR r).length = 5
  backL : (backR r).length ≤ 25
  back : [0, 1, 2, 3, 4].foldl (ins1R r) [] = backR r
  first : [1, 2, 3, 4].foldl (pickR r) 0 = (dueR r).headD 0
  again : [1, 2, 3, 4].foldl (ins3R r) [0] = dueR r
def chk (r : Nat → Nat) : Bool :=
  let du := dueR r
  let ba := backR r
  kOk (ltR r) 5 (kas_sort 5) && ((kRun (ltR r) (kas_sort 5)).toList == du) && du.all (fun k => decide (k < 5)) && ba.all (fun k => decide (k < 5)) && (du.length == 5) && decide (ba.length ≤ 25) &&
    ([0, 1, 2, 3, 4].foldl (ins1R r) [] == ba) && ([1, 2, 3, 4].foldl (pickR r) 0 == du.headD 0) && ([1, 2, 3, 4].foldl (ins3R r) [0] == du)
theorem ord_of {r : Nat → Nat} (h : chk r = true) : Ord r := by
  unfold chk at h
  simp only [Bool.and_eq_true, decide_eq_true_eq, beq_iff_eq, List.all_eq_true] at h
  obtain ⟨⟨⟨⟨⟨⟨⟨⟨h1, h2⟩, h3⟩, h4⟩, h5⟩, h6⟩, h7⟩, h8⟩, h9⟩ := h
  exact ⟨h1, h2, h3, h4, h5, h6, h7, h8, h9⟩
def rf (a b c d e : Nat) : Nat → Nat
  | 0 => a | 1 => b | 2 => c | 3 => d | 4 => e | _ => a
def all5 (p : Nat → Bool) : Bool := p 0 && p 1 && p 2 && p 3 && p 4
theorem all5_at {p : Nat → Bool} (h : all5 p = true) {i : Nat} (hi : i < 5) : p i = true := by
  unfold all5 at h
  simp only [Bool.and_eq_true] at h
  obtain ⟨⟨⟨⟨h0, h1⟩, h2⟩, h3⟩, h4⟩ := h
  match i, hi with
  | 0, _ => exact h0
  | 1, _ => exact h1
  | 2, _ => exact h2
  | 3, _ => exact h3
  | 4, _ => exact h4
def cntR (a b c d e x : Nat) : Nat := (Nat.blt a x).toNat + (Nat.blt b x).toNat + (Nat.blt c x).toNat + (Nat.blt d x).toNat + (Nat.blt e x).toNat
def vld (a b c d e : Nat) : Bool := Nat.beq a (cntR a b c d e a) && Nat.beq b (cntR a b c d e b) && Nat.beq c (cntR a b c d e c) && Nat.beq d (cntR a b c d e d) && Nat.beq e (cntR a b c d e e)
def chk3 (a b : Nat) : Bool := all5 fun c => all5 fun d => all5 fun e => !vld a b c d e || chk (rf a b c d e)
theorem c0 : (all5 fun b => chk3 0 b) = true := by decide +kernel
theorem c1 : (all5 fun b => chk3 1 b) = true := by decide +kernel
theorem c2 : (all5 fun b => chk3 2 b) = true := by decide +kernel
theorem c3 : (all5 fun b => chk3 3 b) = true := by decide +kernel
theorem c4 : (all5 fun b => chk3 4 b) = true := by decide +kernel
theorem chk_all {a b c d e : Nat} (ha : a < 5) (hb : b < 5) (hc : c < 5) (hd : d < 5) (he : e < 5) (hv : vld a b c d e = true) : chk (rf a b c d e) = true := by
  have h : chk3 a b = true := by
    match a, ha with
    | 0, _ => exact all5_at c0 hb
    | 1, _ => exact all5_at c1 hb
    | 2, _ => exact all5_at c2 hb
    | 3, _ => exact all5_at c3 hb
    | 4, _ => exact all5_at c4 hb
  have h2 := all5_at (all5_at (all5_at h hc) hd) he
  rwa [hv, Bool.not_true, Bool.false_or] at h2

/-- the rank of a name among the five -/
def rOf (nm : Nat → Str) (i : Nat) : Nat := ((List.range 5).filter fun k => decide (cp (nm k) < cp (nm i))).length
theorem flt_le {l : List Nat} {p q : Nat → Bool} (h : ∀ x ∈ l, p x = true → q x = true) : (l.filter p).length ≤ (l.filter q).length := by
  induction l with
  | nil => exact Nat.le_refl _
  | cons a l ih =>
    have ih' := ih fun x hx => h x (List.mem_cons_of_mem _ hx)
    have ha := h a List.mem_cons_self
    cases hp : p a <;> cases hq : q a <;> simp [hp, hq] at ha ⊢ <;> omega
theorem flt_lt {l : List Nat} {p q : Nat → Bool} (h : ∀ x ∈ l, p x = true → q x = true) {a : Nat} (ha : a ∈ l) (hp : p a = false) (hq : q a = true) : (l.filter p).length < (l.filter q).length := by
  induction l with
  | nil => cases ha
  | cons b l ih =>
    have hb := h b List.mem_cons_self
    have hl := fun x hx => h x (List.mem_cons_of_mem _ hx)
    rcases List.mem_cons.mp ha with rfl | ha
    · have := flt_le hl
      simp [hp, hq]; omega
    · have := ih hl ha
      cases hp : p b <;> cases hq : q b <;> simp [hp, hq] at hb ⊢ <;> omega
theorem cps_tri (a b : List Nat) : a < b ∨ a = b ∨ b < a := by
  by_cases h1 : a < b
  · exact .inl h1
  by_cases h2 : b < a
  · exact .inr (.inr h2)
  exact .inr (.inl (List.le_antisymm (by simpa using h2) (by simpa using h1)))
theorem r_lt {nm : Nat → Str} {i j : Nat} (hi : i < 5) (h : cp (nm i) < cp (nm j)) : rOf nm i < rOf nm j := by
  refine flt_lt (fun x _ hx => ?_) (a := i) (by simpa using hi) (by simp [List.lt_irrefl]) (by simpa using h)
  simp only [decide_eq_true_eq] at hx ⊢
  exact List.lt_trans hx h
theorem r_eq {nm : Nat → Str} {i j : Nat} (h : cp (nm i) = cp (nm j)) : rOf nm i = rOf nm j := by
  unfold rOf; rw [h]
theorem r_5 {nm : Nat → Str} {i : Nat} (hi : i < 5) : rOf nm i < 5 := by
  have : rOf nm i < ((List.range 5).filter fun _ => true).length := flt_lt (fun _ _ _ => rfl) (a := i) (by simpa using hi) (by simp [List.lt_irrefl]) rfl
  have e : ((List.range 5).filter fun _ => true).length = 5 := by decide
  rwa [e] at this
structure Five (nm : Nat → Str) : Prop where
  far : ∀ i, 5 ≤ i → nm i = nm 0
theorem Five.low {nm : Nat → Str} (F : Five nm) (i : Nat) : ∃ i', i' < 5 ∧ nm i = nm i' := by
  by_cases h : i < 5
  · exact ⟨i, h, rfl⟩
  · exact ⟨0, by decide, F.far i (Nat.le_of_not_lt h)⟩
theorem Five.lt {nm : Nat → Str} (F : Five nm) (i j : Nat) : cp (nm i) < cp (nm j) ↔ rOf nm i < rOf nm j := by
  obtain ⟨i', hi', ei⟩ := F.low i
  obtain ⟨j', hj', ej⟩ := F.low j
  rw [r_eq (j := i') (by rw [ei]), r_eq (i := j) (j := j') (by rw [ej]), ei, ej]
  refine ⟨r_lt hi', fun h => ?_⟩
  rcases cps_tri (cp (nm i')) (cp (nm j')) with h1 | h1 | h1
  · exact h1
  · rw [r_eq h1] at h; exact absurd h (Nat.lt_irrefl _)
  · exact absurd (Nat.lt_trans h (r_lt hj' h1)) (Nat.lt_irrefl _)
theorem Five.eq {nm : Nat → Str} (F : Five nm) (i j : Nat) : cp (nm i) = cp (nm j) ↔ rOf nm i = rOf nm j := by
  refine ⟨r_eq, fun h => ?_⟩
  rcases cps_tri (cp (nm i)) (cp (nm j)) with h1 | h1 | h1
  · have := (F.lt i j).mp h1; omega
  · exact h1
  · have := (F.lt j i).mp h1; omega
theorem Five.ltN {nm : Nat → Str} (F : Five nm) : ltN nm = ltR (rOf nm) := by
  funext i j
  rw [Bool.eq_iff_iff]
  simp [Mine.ltN, ltR, F.lt i j]
theorem Five.gtN {nm : Nat → Str} (F : Five nm) : gtN nm = gtR (rOf nm) := by
  funext i j
  rw [Bool.eq_iff_iff]
  simp [Mine.gtN, gtR, F.lt j i]
theorem Five.eqN {nm : Nat → Str} (F : Five nm) : eqN nm = eqR (rOf nm) := by
  funext i j
  rw [Bool.eq_iff_iff]
  simp [Mine.eqN, eqR, F.eq i j]
theorem Five.rkN {nm : Nat → Str} (F : Five nm) : rkN nm = rkR (rOf nm) := by
  funext i j
  have e1 := F.eq i j
  have e2 := F.lt i j
  unfold Mine.rkN rkR rk eqR ltR
  simp only [e1, e2, Nat.beq_eq, Nat.blt_eq]
theorem Five.ahead {nm : Nat → Str} (F : Five nm) (lt : Nat → Nat → Bool) : aheadN lt nm = aheadR lt (eqR (rOf nm)) := by
  funext k
  unfold aheadN aheadR
  rw [F.eqN]
theorem rOf_rf {nm : Nat → Str} (F : Five nm) : rOf nm = rf (rOf nm 0) (rOf nm 1) (rOf nm 2) (rOf nm 3) (rOf nm 4) := by
  funext i
  match i with
  | 0 => rfl
  | 1 => rfl
  | 2 => rfl
  | 3 => rfl
  | 4 => rfl
  | n + 5 => exact r_eq (by rw [F.far (n + 5) (Nat.le_add_left 5 n)])
theorem Five.ord {nm : Nat → Str} (F : Five nm) : Ord (rOf nm) := by
  rw [rOf_rf F]
  refine ord_of (chk_all (r_5 (by decide)) (r_5 (by decide)) (r_5 (by decide)) (r_5 (by decide)) (r_5 (by decide)) ?_)
  have cnt : ∀ i, rOf nm i = cntR (rOf nm 0) (rOf nm 1) (rOf nm 2) (rOf nm 3) (rOf nm 4) (rOf nm i) := fun i => by
    have e : ∀ k, decide (cp (nm k) < cp (nm i)) = Nat.blt (rOf nm k) (rOf nm i) := fun k => by
      rw [Bool.eq_iff_iff]; simp [F.lt k i]
    have g : ∀ p : Nat → Bool, ((List.range 5).filter p).length = (p 0).toNat + (p 1).toNat + (p 2).toNat + (p 3).toNat + (p 4).toNat := fun p => by
      rw [show List.range 5 = [0, 1, 2, 3, 4] from rfl]
      cases h0 : p 0 <;> cases h1 : p 1 <;> cases h2 : p 2 <;> cases h3 : p 3 <;> cases h4 : p 4 <;> simp [h0, h1, h2, h3, h4]
    have := g fun k => decide (cp (nm k) < cp (nm i))
    unfold cntR
    rw [← e, ← e, ← e, ← e, ← e]
    exact this
  unfold vld
  simp only [Bool.and_eq_true, Nat.beq_eq]
  exact ⟨⟨⟨⟨cnt 0, cnt 1⟩, cnt 2⟩, cnt 3⟩, cnt 4⟩
theorem pl_of {tt : Nat → Str} (F : Five (nmT tt)) (lineB : ∀ i, i ≤ 5 → (lineT tt ((dueT tt).take i)).length ≤ 100000) (joinB : JoinOk " " (liveN (nmT tt) (dueT tt)) = true)
    (line : cp (lineT tt (dueT tt)) = cp (Txt.join " " (liveN (nmT tt) (dueT tt)))) : PL tt := by
  have O := F.ord
  have e1 : dueT tt = dueR (rOf (nmT tt)) := by unfold dueT dueR; rw [F.ltN, F.ahead]
  have e2 : backT tt = backR (rOf (nmT tt)) := by unfold backT backR; rw [F.gtN, F.ahead]
  have e3 : ins1 tt = ins1R (rOf (nmT tt)) := by funext ds x; unfold ins1 ins1R; rw [F.rkN]
  have e4 : ins3 tt = ins3R (rOf (nmT tt)) := by funext ds x; unfold ins3 ins3R; rw [F.rkN]
  have e5 : pick tt = pickR (rOf (nmT tt)) := by funext a b; unfold pick pickR; rw [F.rkN]
  refine ⟨?_, ?_, ?_, ?_, ?_, ?_, ?_, ?_, ?_, lineB, joinB, line⟩
  · rw [F.ltN]; exact O.ok
  · rw [F.ltN, e1]; exact O.row
  · rw [e1]; exact O.due5
  · rw [e2]; exact O.back5
  · rw [e1]; exact O.dueL
  · rw [e2]; exact O.backL
  · rw [e3, e2]; exact O.back
  · rw [e5, e1]; exact O.first
  · rw [e4, e1]; exact O.again
end Mine

set_option maxRecDepth 100000
set_option maxHeartbeats 4000000
namespace Mine
open PySem.Calls Builtin

/-! ## the plain law: the words -/
theorem str_ext {a b : Str} (h : cp a = cp b) : a = b := Str.ext' (Array.toList_inj.mp h)
theorem cp_append (a b : Str) : cp (a ++ b) = cp a ++ cp b := by
  show (a ++ b).cps.toList = _
  rw [Str.cps_append, Array.toList_append]
def sgs : List Nat := [97, 65, 98, 66, 32, 9, 45, 67, 99]
def lows (c : Nat) : Nat := if 65 ≤ c ∧ c ≤ 67 then c + 32 else c
def ups (c : Nat) : Nat := if 97 ≤ c ∧ c ≤ 99 then c - 32 else c
def capL : List Nat → List Nat
  | [] => []
  | c :: r => ups c :: r.map lows
def Sg (l : List Nat) : Prop := ∀ c ∈ l, c ∈ sgs
theorem title_sg : ∀ c ∈ sgs, Unicode.titleOf c = [ups c] := by decide +kernel
theorem lower_sg : ∀ c ∈ sgs, Unicode.lowerOf c = [lows c] ∧ c ≠ 0x3A3 := by decide +kernel
theorem flat1 (f : Nat → Nat → Nat) : ∀ l : List Nat, (l.mapIdx fun i c => [f i c]).flatten = l.mapIdx f := by
  intro l
  induction l generalizing f with
  | nil => rfl
  | cons a l ih => rw [List.mapIdx_cons, List.mapIdx_cons, List.flatten_cons, ih fun i c => f (i + 1) c]; rfl
theorem placed_toList (x : Str) (f : Nat → Nat → List Nat) : (placed x f).toList = (x.cps.toList.mapIdx f).flatten := by
  unfold placed
  rw [Array.toList_flatten, Array.toList_mapIdx]
  congr 1
  apply List.ext_getElem?
  intro i
  simp only [List.getElem?_map, List.getElem?_mapIdx, Option.map_map]
  rfl
theorem cap_cp {x : Str} (h : Sg (cp x)) : cp (Txt.capitalize x) = capL (cp x) := by
  unfold Txt.capitalize
  by_cases h0 : x.length = 0
  · rw [if_pos (by simpa using h0)]
    have e : cp x = [] := List.eq_nil_of_length_eq_zero (by rw [Array.length_toList]; exact h0)
    rw [e]; rfl
  · rw [if_neg (by simpa using h0)]
    show (placed x _).toList = _
    rw [placed_toList]
    have e : (x.cps.toList.mapIdx fun i c => if (i == 0) = true then Unicode.titleOf c else Unicode.lowerAt x.cps i) = x.cps.toList.mapIdx fun i c => [if i = 0 then ups c else lows c] := by
      rw [List.mapIdx_eq_mapIdx_iff]
      intro i hi
      have hm : x.cps.toList[i] ∈ sgs := h _ (List.getElem_mem hi)
      by_cases hz : i = 0
      · subst hz; simpa using title_sg _ hm
      · have hz' : ¬ ((i == 0) = true) := by simpa using hz
        rw [if_neg hz', if_neg hz]
        unfold Unicode.lowerAt
        have hg : x.cps[i]? = some x.cps.toList[i] := by rw [← Array.getElem?_toList]; exact List.getElem?_eq_getElem hi
        rw [hg]
        have := lower_sg _ hm
        have hn : ¬ ((x.cps.toList[i] == 0x3A3 && Unicode.endsWord x.cps i) = true) := by
          rw [Bool.and_eq_true, beq_iff_eq]; exact fun q => this.2 q.1
        show (if (x.cps.toList[i] == 0x3A3 && Unicode.endsWord x.cps i) = true then _ else _) = _
        rw [if_neg hn]
        exact this.1
    rw [e, flat1]
    show _ = capL x.cps.toList
    cases hl : x.cps.toList with
    | nil => rfl
    | cons c r =>
      rw [List.mapIdx_cons]
      show ups c :: r.mapIdx (fun i c => if i + 1 = 0 then ups c else lows c) = ups c :: r.map lows
      congr 1
      apply List.ext_getElem?
      intro i
      simp

abbrev LSt := List (List Nat) × List Nat
def stepL (st : LSt) (c : Nat) : LSt := if Unicode.isSpace c = true then (if st.2 = [] then st else (st.1 ++ [st.2], [])) else (st.1, st.2 ++ [c])
def finL (st : LSt) : List (List Nat) := if st.2 = [] then st.1 else st.1 ++ [st.2]
def scanL (l : List Nat) : LSt := l.foldl stepL ([], [])
def wordsL (l : List Nat) : List (List Nat) := finL (scanL l)
def toL (st : KWd.St) : LSt := (st.1.map cp, cp st.2)
theorem cp_nil {x : Str} : cp x = [] ↔ x.length = 0 := by
  rw [← List.length_eq_zero_iff, Array.length_toList]; rfl
theorem toL_step (st : KWd.St) (c : Nat) : toL (KWd.step st c) = stepL (toL st) c := by
  unfold KWd.step stepL
  by_cases hs : Unicode.isSpace c = true
  · rw [if_pos hs, if_pos hs]
    by_cases h0 : st.2.length = 0
    · rw [if_pos h0, if_pos (show (toL st).2 = [] from cp_nil.mpr h0)]
    · rw [if_neg h0, if_neg (show ¬ (toL st).2 = [] from fun e => h0 (cp_nil.mp e))]
      unfold toL
      rw [List.map_append]; rfl
  · rw [if_neg hs, if_neg hs]
    unfold toL
    rw [cp_append]
theorem toL_fold : ∀ (l : List Nat) (st : KWd.St), toL (l.foldl KWd.step st) = l.foldl stepL (toL st)
  | [], _ => rfl
  | c :: l, st => by rw [List.foldl_cons, List.foldl_cons, toL_fold l, toL_step]
theorem words_cp (x : Str) : (Txt.words x).map cp = wordsL (cp x) := by
  rw [KWd.words_scan]
  have e : toL (KWd.scan x) = scanL (cp x) := toL_fold _ _
  unfold wordsL
  rw [← e]
  unfold KWd.fin finL
  by_cases h0 : (KWd.scan x).2.length = 0
  · rw [if_pos h0, if_pos (show (toL (KWd.scan x)).2 = [] from cp_nil.mpr h0)]; rfl
  · rw [if_neg h0, if_neg (show ¬ (toL (KWd.scan x)).2 = [] from fun e => h0 (cp_nil.mp e)), List.map_append]; rfl

def jn : List (List Nat) → List Nat
  | [] => []
  | [x] => x
  | x :: y :: r => x ++ [32] ++ jn (y :: r)
theorem join_cp : ∀ l : List Str, cp (Txt.join " " l) = jn (l.map cp)
  | [] => rfl
  | [x] => by
    show cp (Builtin.Str.glued _ [x]) = _
    rw [StrLaws.glued_eq_join]; rfl
  | x :: y :: r => by
    have ih := join_cp (y :: r)
    have e : ∀ l, Txt.join " " l = Str.join " " l := fun l => StrLaws.glued_eq_join _ l
    rw [e] at ih ⊢
    show cp (x ++ (" " : Str) ++ Str.join " " (y :: r)) = _
    rw [cp_append, cp_append, ih]
    rfl
def capwL (l : List Nat) : List Nat := jn ((wordsL l).map capL)

/-- what a scan holds -/
theorem scan_inv {P : List Nat → Prop} (l : List Nat) (q : Nat → Prop) (hq : ∀ c ∈ l, q c) (h0 : P []) (hs : ∀ w c, P w → q c → Unicode.isSpace c = false → P (w ++ [c])) :
    ∀ st : LSt, (∀ w ∈ st.1, P w ∧ w ≠ []) → P st.2 → (∀ w ∈ (l.foldl stepL st).1, P w ∧ w ≠ []) ∧ P (l.foldl stepL st).2 := by
  induction l with
  | nil => exact fun st h1 h2 => ⟨h1, h2⟩
  | cons c l ih =>
    intro st h1 h2
    rw [List.foldl_cons]
    refine ih (fun c hc => hq c (List.mem_cons_of_mem _ hc)) _ ?_ ?_
    · unfold stepL
      split
      · split
        · exact h1
        · rename_i hne
          intro w hw
          rcases List.mem_append.mp hw with hw | hw
          · exact h1 w hw
          · rw [List.mem_singleton] at hw; subst hw; exact ⟨h2, hne⟩
      · exact h1
    · unfold stepL
      split
      · split
        · exact h2
        · exact h0
      · rename_i hsp
        exact hs _ _ h2 (hq c List.mem_cons_self) (by simpa using hsp)
theorem words_inv {P : List Nat → Prop} {l : List Nat} (q : Nat → Prop) (hq : ∀ c ∈ l, q c) (h0 : P []) (hs : ∀ w c, P w → q c → Unicode.isSpace c = false → P (w ++ [c])) : ∀ w ∈ wordsL l, P w ∧ w ≠ [] := by
  obtain ⟨h1, h2⟩ := scan_inv (P := P) l q hq h0 hs ([], []) (by simp) h0
  unfold wordsL finL
  intro w hw
  split at hw
  · exact h1 w hw
  · rename_i hne
    rcases List.mem_append.mp hw with hw | hw
    · exact h1 w hw
    · rw [List.mem_singleton] at hw; subst hw; exact ⟨h2, hne⟩
/-- a word: signs, none of them white -/
def Wd (w : List Nat) : Prop := ∀ c ∈ w, c ∈ sgs ∧ Unicode.isSpace c = false
theorem words_wd {l : List Nat} (h : Sg l) : ∀ w ∈ wordsL l, Wd w ∧ w ≠ [] := by
  refine words_inv (P := Wd) (fun c => c ∈ sgs) h (by intro c hc; cases hc) fun w c hw hc hsp => ?_
  intro d hd
  rcases List.mem_append.mp hd with hd | hd
  · exact hw d hd
  · rw [List.mem_singleton] at hd; subst hd; exact ⟨hc, hsp⟩
theorem cap_wd {w : List Nat} (h : Wd w) : Wd (capL w) := by
  have h1 : ∀ c ∈ sgs, Unicode.isSpace c = false → (ups c ∈ sgs ∧ Unicode.isSpace (ups c) = false) ∧ (lows c ∈ sgs ∧ Unicode.isSpace (lows c) = false) := by decide +kernel
  cases w with
  | nil => exact h
  | cons c r =>
    intro d hd
    rcases List.mem_cons.mp hd with rfl | hd
    · have := h c List.mem_cons_self; exact (h1 c this.1 this.2).1
    · obtain ⟨e, he, rfl⟩ := List.mem_map.mp hd
      have := h e (List.mem_cons_of_mem _ he)
      exact (h1 e this.1 this.2).2
theorem cap_ne {w : List Nat} (h : w ≠ []) : capL w ≠ [] := by
  cases w with
  | nil => exact absurd rfl h
  | cons c r => exact List.cons_ne_nil _ _
theorem ups_ups (c : Nat) : ups (ups c) = ups c := by unfold ups; split <;> (try split) <;> omega
theorem lows_lows (c : Nat) : lows (lows c) = lows c := by unfold lows; split <;> (try split) <;> omega
theorem cap_cap (w : List Nat) : capL (capL w) = capL w := by
  cases w with
  | nil => rfl
  | cons c r =>
    show ups (ups c) :: (r.map lows).map lows = ups c :: r.map lows
    rw [ups_ups, List.map_map]
    congr 1
    refine List.map_congr_left fun c _ => lows_lows c
theorem cap_len (w : List Nat) : (capL w).length = w.length := by cases w <;> simp [capL]
theorem capw_cp {x : Str} (h : Sg (cp x)) : cp (capw x) = capwL (cp x) := by
  unfold capw capwL
  rw [join_cp, List.map_map, ← words_cp, List.map_map]
  congr 1
  refine List.map_congr_left fun y hy => ?_
  show cp (Txt.capitalize y) = capL (cp y)
  refine cap_cp ?_
  have hm : cp y ∈ wordsL (cp x) := by rw [← words_cp]; exact List.mem_map_of_mem hy
  exact fun c hc => ((words_wd h _ hm).1 c hc).1

/-- the scan of two texts with a white sign between -/
theorem fold_pre (ws : List (List Nat)) : ∀ (l : List Nat) (st : LSt), l.foldl stepL (ws ++ st.1, st.2) = (ws ++ (l.foldl stepL st).1, (l.foldl stepL st).2)
  | [], _ => rfl
  | c :: l, st => by
    rw [List.foldl_cons, List.foldl_cons, ← fold_pre ws l]
    congr 1
    unfold stepL
    dsimp only
    split
    · split
      · rfl
      · rw [List.append_assoc]
    · rfl
theorem words_sp (a b : List Nat) {c : Nat} (hc : Unicode.isSpace c = true) : wordsL (a ++ [c] ++ b) = wordsL a ++ wordsL b := by
  have e : stepL (scanL a) c = (wordsL a, []) := by
    unfold stepL wordsL finL
    rw [if_pos hc]
    split
    · rename_i h; exact Prod.ext rfl h
    · rfl
  unfold wordsL scanL at *
  rw [List.foldl_append, List.foldl_append]
  show finL (b.foldl stepL (stepL (a.foldl stepL ([], [])) c)) = _
  rw [e]
  have := fold_pre (finL (a.foldl stepL ([], []))) b ([], [])
  rw [List.append_nil] at this
  rw [this]
  unfold finL
  dsimp only
  split
  · rfl
  · rw [List.append_assoc]
theorem fold_wd (ws : List (List Nat)) : ∀ (w r : List Nat), (∀ c ∈ w, Unicode.isSpace c = false) → w.foldl stepL (ws, r) = (ws, r ++ w)
  | [], r, _ => by simp
  | c :: w, r, h => by
    have hc := h c List.mem_cons_self
    rw [List.foldl_cons]
    show w.foldl stepL (stepL (ws, r) c) = _
    unfold stepL
    rw [if_neg (by rw [hc]; decide)]
    have := fold_wd ws w (r ++ [c]) fun d hd => h d (List.mem_cons_of_mem _ hd)
    unfold stepL at this
    rw [this, List.append_assoc]; rfl
theorem words_one {w : List Nat} (h : ∀ c ∈ w, Unicode.isSpace c = false) (hne : w ≠ []) : wordsL w = [w] := by
  unfold wordsL scanL
  rw [fold_wd [] w [] h]
  unfold finL
  rw [List.nil_append, if_neg hne]; rfl
theorem sp32 : Unicode.isSpace 32 = true := by decide +kernel
theorem sp9 : Unicode.isSpace 9 = true := by decide +kernel
theorem words_jn : ∀ (ws : List (List Nat)), (∀ w ∈ ws, Wd w ∧ w ≠ []) → wordsL (jn ws) = ws
  | [], _ => rfl
  | [w], h => words_one (fun c hc => ((h w List.mem_cons_self).1 c hc).2) (h w List.mem_cons_self).2
  | w :: v :: r, h => by
    show wordsL (w ++ [32] ++ jn (v :: r)) = _
    rw [words_sp _ _ sp32, words_jn (v :: r) fun u hu => h u (List.mem_cons_of_mem _ hu), words_one (fun c hc => ((h w List.mem_cons_self).1 c hc).2) (h w List.mem_cons_self).2]
    rfl
/-- the words of a text, each its first letter great -/
def WL (l : List Nat) : List (List Nat) := (wordsL l).map capL
theorem WL_wd {l : List Nat} (h : Sg l) : ∀ w ∈ WL l, (Wd w ∧ w ≠ []) ∧ capL w = w := by
  intro w hw
  obtain ⟨v, hv, rfl⟩ := List.mem_map.mp hw
  have := words_wd h v hv
  exact ⟨⟨cap_wd this.1, cap_ne this.2⟩, cap_cap v⟩
theorem jn_sg : ∀ {ws : List (List Nat)}, (∀ w ∈ ws, Wd w) → Sg (jn ws)
  | [], _ => by intro c hc; cases hc
  | [w], h => fun c hc => (h w List.mem_cons_self c hc).1
  | w :: v :: r, h => by
    intro c hc
    have ih : Sg (jn (v :: r)) := jn_sg fun u hu => h u (List.mem_cons_of_mem _ hu)
    rcases List.mem_append.mp hc with hc | hc
    · rcases List.mem_append.mp hc with hc | hc
      · exact (h w List.mem_cons_self c hc).1
      · rw [List.mem_singleton] at hc; subst hc; decide
    · exact ih c hc
theorem capw_step {ws : List (List Nat)} {t : List Nat} (h : ∀ w ∈ ws, (Wd w ∧ w ≠ []) ∧ capL w = w) : capwL (jn ws ++ [9] ++ t) = jn (ws ++ WL t) := by
  unfold capwL
  rw [words_sp _ _ sp9, words_jn ws fun w hw => (h w hw).1, List.map_append]
  have e : ws.map capL = ws := by
    conv => rhs; rw [← List.map_id ws]
    exact List.map_congr_left fun w hw => (h w hw).2
  rw [e]; rfl
theorem line_eq {tt : Nat → Str} (hs : ∀ k, Sg (cp (tt k))) : ∀ l : List Nat, cp (lineT tt l) = jn (l.flatMap fun k => WL (cp (tt k))) := by
  have key : ∀ (l : List Nat) (ws : List (List Nat)) (x : Str), (∀ w ∈ ws, (Wd w ∧ w ≠ []) ∧ capL w = w) → cp x = jn ws → cp (l.foldl (fun line k => capw (line ++ tab ++ tt k)) x) = jn (ws ++ l.flatMap fun k => WL (cp (tt k))) := by
    intro l
    induction l with
    | nil => intro ws x _ e; rw [List.flatMap_nil, List.append_nil]; exact e
    | cons k l ih =>
      intro ws x h e
      rw [List.foldl_cons, List.flatMap_cons, ← List.append_assoc]
      refine ih (ws ++ WL (cp (tt k))) _ (fun w hw => ?_) ?_
      · rcases List.mem_append.mp hw with hw | hw
        · exact h w hw
        · exact WL_wd (hs k) w hw
      · have e2 : cp (x ++ tab ++ tt k) = jn ws ++ [9] ++ cp (tt k) := by rw [cp_append, cp_append, e]
        rw [capw_cp, e2, capw_step h]
        rw [e2]
        intro c hc
        rcases List.mem_append.mp hc with hc | hc
        · rcases List.mem_append.mp hc with hc | hc
          · exact jn_sg (fun w hw => (h w hw).1.1) c hc
          · rw [List.mem_singleton] at hc; subst hc; decide
        · exact hs k c hc
  intro l
  have := key l [] ⟨#[]⟩ (by simp) rfl
  rw [List.nil_append] at this
  exact this
theorem jn_nil {ws : List (List Nat)} (h : ∀ w ∈ ws, w ≠ []) : jn ws = [] ↔ ws = [] := by
  refine ⟨fun e => ?_, fun e => by rw [e]; rfl⟩
  match ws, h, e with
  | [], _, _ => rfl
  | [w], h, e => exact absurd e (h w List.mem_cons_self)
  | w :: v :: r, h, e =>
    have : w ++ [32] ++ jn (v :: r) = [] := e
    simp at this
theorem jn_app : ∀ {a b : List (List Nat)}, a ≠ [] → b ≠ [] → jn (a ++ b) = jn a ++ [32] ++ jn b
  | [], _, h, _ => absurd rfl h
  | [x], [], _, h => absurd rfl h
  | [x], y :: r, _, _ => rfl
  | x :: y :: r, b, _, hb => by
    have ih := jn_app (a := y :: r) (b := b) (by simp) hb
    show x ++ [32] ++ jn ((y :: r) ++ b) = x ++ [32] ++ jn (y :: r) ++ [32] ++ jn b
    rw [ih]
    simp only [List.append_assoc]
theorem jn_flat (f : Nat → List (List Nat)) (h : ∀ k, ∀ w ∈ f k, w ≠ []) : ∀ l : List Nat, jn ((l.filter fun k => !decide (jn (f k) = [])).map fun k => jn (f k)) = jn (l.flatMap f)
  | [] => rfl
  | k :: l => by
    have ih := jn_flat f h l
    by_cases hk : f k = []
    · rw [List.filter_cons_of_neg (by simp [hk, jn]), List.flatMap_cons, hk, List.nil_append]
      exact ih
    · rw [List.filter_cons_of_pos (by simp [jn_nil (h k), hk]), List.flatMap_cons, List.map_cons]
      by_cases hl : l.flatMap f = []
      · rw [hl] at ih ⊢
        have e : (l.filter fun k => !decide (jn (f k) = [])) = [] := by
          rw [List.filter_eq_nil_iff]
          intro j hj
          have : f j = [] := List.flatMap_eq_nil_iff.mp hl j hj
          simp [this, jn]
        rw [e, List.append_nil]; rfl
      · rw [jn_app hk hl, ← ih]
        have hm : ((l.filter fun k => !decide (jn (f k) = [])).map fun k => jn (f k)) ≠ [] := by
          intro e
          rw [e] at ih
          have h2 : ∀ w ∈ l.flatMap f, w ≠ [] := fun w hw => by
            obtain ⟨j, _, hj⟩ := List.mem_flatMap.mp hw
            exact h j w hj
          exact hl ((jn_nil h2).mp ih.symm)
        exact jn_app (a := [jn (f k)]) (by simp) hm
theorem live_eq {tt : Nat → Str} (hs : ∀ k, Sg (cp (tt k))) (l : List Nat) : cp (Txt.join " " (liveN (nmT tt) l)) = jn (l.flatMap fun k => WL (cp (tt k))) := by
  have e : ∀ k, cp (nmT tt k) = jn (WL (cp (tt k))) := fun k => capw_cp (hs k)
  rw [join_cp]
  unfold liveN
  rw [List.map_map, ← jn_flat (fun k => WL (cp (tt k))) (fun k w hw => (WL_wd (hs k) w hw).1.2)]
  congr 1
  have e2 : (fun k => !decide (cp (nmT tt k) = [])) = fun k => !decide (jn (WL (cp (tt k))) = []) := by funext k; rw [e k]
  rw [e2]
  exact List.map_congr_left fun k _ => e k
theorem jn_len : ∀ ws : List (List Nat), (jn ws).length ≤ (ws.map (·.length)).sum + ws.length
  | [] => Nat.zero_le _
  | [w] => by simp [jn]
  | w :: v :: r => by
    have ih := jn_len (v :: r)
    show (w ++ [32] ++ jn (v :: r)).length ≤ _
    simp only [List.length_append, List.length_nil, List.map_cons, List.sum_cons, List.length_cons] at ih ⊢
    omega
theorem WL_len (t : Str) : ((WL (cp t)).map (·.length)).sum + (WL (cp t)).length ≤ t.length + 1 := by
  have := StrLaws.words_weight t
  unfold WL
  rw [← words_cp, List.length_map, List.length_map, List.map_map, List.map_map]
  have e : (Txt.words t).map (((fun x => x.length) ∘ capL) ∘ cp) = (Txt.words t).map (·.length) := List.map_congr_left fun x _ => by
    show (capL (cp x)).length = x.length
    rw [cap_len, Array.length_toList]; rfl
  rw [e]; exact this
theorem flat_len (tt : Nat → Str) (n : Nat) (hn : ∀ k, (tt k).length ≤ n) : ∀ l : List Nat, ((l.flatMap fun k => WL (cp (tt k))).map (·.length)).sum + (l.flatMap fun k => WL (cp (tt k))).length ≤ l.length * (n + 1)
  | [] => by simp
  | k :: l => by
    have ih := flat_len tt n hn l
    have h1 := WL_len (tt k)
    have h2 := hn k
    rw [List.flatMap_cons, List.map_append, List.sum_append, List.length_append, List.length_cons, Nat.succ_mul]
    omega
theorem plain_law {tt : Nat → Str} (hs : ∀ k, Sg (cp (tt k))) (hn : ∀ k, (tt k).length ≤ 6) (hf : ∀ i, 5 ≤ i → tt i = tt 0) : PL tt := by
  have F : Five (nmT tt) := ⟨fun i hi => by show capw (tt i) = capw (tt 0); rw [hf i hi]⟩
  have hL : (dueT tt).length = 5 := by
    have e1 : dueT tt = dueR (rOf (nmT tt)) := by unfold dueT dueR; rw [F.ltN, F.ahead]
    rw [e1]; exact F.ord.dueL
  have bnd : ∀ l : List Nat, l.length ≤ 5 → (jn (l.flatMap fun k => WL (cp (tt k)))).length ≤ 35 := fun l hl => by
    have h1 := flat_len tt 6 hn l
    have h2 := jn_len (l.flatMap fun k => WL (cp (tt k)))
    have h3 : l.length * 7 ≤ 35 := by omega
    omega
  refine pl_of F (fun i _ => ?_) ?_ ?_
  · have e : (lineT tt ((dueT tt).take i)).length = (cp (lineT tt ((dueT tt).take i))).length := by rw [Array.length_toList]; rfl
    rw [e, line_eq hs]
    exact Nat.le_trans (bnd _ (by rw [List.length_take]; omega)) (by decide)
  · unfold JoinOk
    rw [StrLaws.joinFits (B := 7)]
    · rfl
    · intro y hy
      unfold liveN at hy
      obtain ⟨k, _, rfl⟩ := List.mem_map.mp hy
      have e : (nmT tt k).length = (cp (nmT tt k)).length := by rw [Array.length_toList]; rfl
      rw [e, show cp (nmT tt k) = jn (WL (cp (tt k))) from capw_cp (hs k)]
      have h1 := jn_len (WL (cp (tt k)))
      have h2 := WL_len (tt k)
      have h3 := hn k
      omega
    · have h1 : (liveN (nmT tt) (dueT tt)).length ≤ 5 := by
        unfold liveN
        rw [List.length_map]
        exact Nat.le_trans (List.length_filter_le _ _) (by rw [hL]; decide)
      have h2 : (" " : Str).length = 1 := by decide
      rw [h2]; omega
  · rw [line_eq hs, live_eq hs]
end Mine

set_option maxRecDepth 100000
set_option maxHeartbeats 4000000
namespace Mine
open PySem.Calls Builtin

/-! ## entering a def of one parameter, with sizes -/
theorem newEnv_1 {M : Model} {A : Around} {E : Value → Shared → Prop} {s : Shared} {scope : Scope} {globals : Addr} {n1 : Str} {v1 : Value} {qual : Str} {func : Option Addr} {code : Value} {bi : Addr} {Q : Env → Shared → Prop}
    (hk : scope.kind = .function) (h1 : scope.names.lookup n1 = some .local)
    (hQ : ∀ h' tk, h'.Ns s.heap.objs.size (fun y => if y = n1 then some v1 else none) → Heap.SameBut s.heap.objs.size (pushCells (s.heap.push { cls := .type "frame", data := .dict #[] }) scope.names) h' →
      Q (newEnv scope s.heap.objs.size globals (cellsFrom (s.heap.objs.size + 1) scope.names []) qual func code none bi) { s with heap := h', toks := tk }) :
    wpAny M A (newFunctionEnv scope globals [] [(n1, v1)] qual func code none bi) Q E s := by
  simp only [newFunctionEnv, Option.isSome_none, Bool.false_eq_true, if_false]
  refine wpAny_bind (wpAny_alloc ?_)
  refine wpAny_bind (wpAny_layCells _ (fun name kind cells => by cases hkc : kind == NameKind.cell <;> simp [hkc]) _ _ _ _ ?_)
  rw [show ({ s with heap := s.heap.push { cls := .type "frame", data := .dict #[] } } : Shared).heap.objs.size = s.heap.objs.size + 1 from Heap.size_push ..]
  simp only [List.forIn_cons, List.forIn_nil]
  have N0 : (pushCells (s.heap.push { cls := .type "frame", data := .dict #[] }) scope.names).Ns s.heap.objs.size (fun _ => none) := (Heap.Ns.new s.heap (.type "frame")).keeps (pushCells_keeps _ _)
  refine wpAny_bind (wpAny_bind (wpAny_bind (wpAny_storeName_local (env := newEnv scope s.heap.objs.size globals (cellsFrom (s.heap.objs.size + 1) scope.names []) qual func code none bi) h1 N0 (fun h2' N2 sb2 => ?_) (by show (scope.kind == .class || (scope.kind == .module && _)) = false; rw [hk]; rfl))))
  exact wpAny_pure (wpAny_pure (wpAny_pure (hQ _ _ N2 sb2)))
theorem enterZ {w : World} {A : Around} {s : Shared} {R : Result → Shared → Prop} {a : Addr} {args : Args} (fd : FuncData) (body : List Stmt) (n1 : Str) (v1 : Value) (hroom : A.depth < recursionLimit) (X : (KK w).In s.heap)
    (e1 : (KK w).lookup a = some (ob w a)) (e2 : (ob w a).data = .func fd) (e3 : codeIn (KK w) fd.code fd.qualname = true) (e4 : fd.body = .stmts body)
    (hbind : bindArgs fd args = pure [(n1, v1)]) (hclo : fd.closure = []) (h1 : fd.scope.names.lookup n1 = some .local)
    (hco : fd.scope.isCoroutine = false) (hgen : fd.scope.isGenerator = false) (hk : fd.scope.kind = .function)
    (h : ∀ h₀ tk, h₀.Ns s.heap.objs.size (fun y => if y = n1 then some v1 else none) → Heap.SameBut s.heap.objs.size (pushCells (s.heap.push { cls := .type "frame", data := .dict #[] }) fd.scope.names) h₀ →
      wpAny (MM w) (A.deeper (callEnvC fd s.heap.objs.size a)) (execs body (callEnvC fd s.heap.objs.size a)) (fun f s' => R (.ok (.ret (match f with | .ret v => v | _ => .none))) s')
        (fun e s' => wpAny (MM w) (A.deeper (callEnvC fd s.heap.objs.size a)) (leaving (callEnvC fd s.heap.objs.size a) e) (fun _ s'' => R (.error e) s'') (fun e' s'' => R (.error e') s'') s')
        { s with heap := h₀, toks := tk }) : codeAny (MM w) A (.call (.ref a) args) R s := by
  refine codeAny_call_function hroom (ob_at X a e1) e2 hco hgen e4 (codeRec_of X e3) ?_
  rw [hbind, hclo]
  refine wpAny_pure (newEnv_1 hk h1 fun h' tk N sb => ?_)
  have k : Kp s.heap h' := fun b o e => sb.extBut b o (Nat.ne_of_lt (Heap.lt_size e)) (pushCells_keeps _ _ b o (Heap.get?_push_of_some _ e))
  exact ⟨noLimit (X.keeps k), codeAny_func (h h' tk N sb)⟩

/-! ## a text's signs, with sizes -/
section
variable {w : World} {A : Around} {E : Value → Shared → Prop} {s : Shared}
theorem pn_str_end {it : Addr} {x : Str} {t : Tok} {i : Nat} {Q : Option Value → Shared → Prop} (hh : A.handled = none) (hit : s.heap.IsStrIter it "str_ascii_iterator" x t i) (hx : x.cps[i]? = none)
    (hQ : ∀ h', Heap.ExtBut it s.heap h' → h'.objs.size = s.heap.objs.size + 2 → Q none { s with heap := h' }) : wpAny (MM w) A (pyNext (.ref it)) Q E s := by
  obtain ⟨o, ho, hc, hd⟩ := id hit
  unfold pyNext
  refine wpAny_bind (wpAny_attempt (wpAny_callSpecial?_slot (name := Str.ofString "__next__") hit.typeIs F.slot_str_ascii_iterator_next
    (wpAny_call_entry F.slot_str_ascii_iterator_next hit.typeIs F.entry_str_ascii_iterator_next ?_ (F.args_str_ascii_iterator_next_1 _))))
  show wpAny _ _ (field (.ref it) 0 >>= _) _ _ s
  refine wpAny_bind (wpAny_field ho hd (x := .str x t) rfl ?_)
  show wpAny _ _ (field (.ref it) 1 >>= _) _ _ s
  refine wpAny_bind (wpAny_field ho hd (x := .int i 0) rfl ?_)
  simp only [Int.toNat_natCast, hx]
  refine wpAny_bind (wpAny_rule (wpAny_bind (wpAny_setField ho hd (by simp) (wpAny_bind (wpAny_letGo ?_)))))
  show wpAny _ _ (newExc (.type "StopIteration") [] >>= _) _ _ _
  refine wpAny_bind ?_
  simp only [newExc, newTuple]
  refine wpAny_bind (wpAny_newObj_type ?_ (by size_fits))
  refine wpAny_bind (m := firstArgMember _ _) (wpAny_of_eq (a := Value.none) (by first | rfl | (simp only [firstArgMember]; rfl)) ?_)
  refine wpAny_newObj_type ?_ (by size_fits)
  simp only [raiseNew]
  refine wpAny_bind (wpAny_handled ?_)
  rw [show A.in1.handled = none from hh]
  refine wpAny_bind (wpAny_pure (wpAny_throw ?_))
  refine wpAny_bind (wpAny_isInstance (T := "StopIteration") (b := true) ⟨_, Heap.get?_push_size _ rfl, rfl⟩ isSubtype_stop ?_)
  refine wpAny_pure (hQ _ (((Heap.SameBut.update ..).extBut.push _).push _) ?_)
  rw [Heap.size_push, Heap.size_push, (Heap.SameBut.update ..).1]
theorem set_last {l : Addr} {items : Array Value} {t : Tok} {v : Value} {Q : Unit → Shared → Prop} (hl : s.heap.PlainList l items) (hn : 0 < items.size)
    (hQ : ∀ h', h'.PlainList l (items.setIfInBounds (items.size - 1) v) → Heap.SameBut l s.heap h' → Q () { s with heap := h' }) : wpAny (MM w) A (setItem (.ref l) (.int (-1) t) v) Q E s := by
  obtain ⟨n, ho⟩ := id hl
  have hT := hl.isList.typeIs
  unfold setItem
  try with_reducible refine wpAny_holding ?_
  first | refine wpAny_bind (wpAny_pure ?_) | skip
  refine wpAny_bind (wpAny_sequenceKey hT (by decide) ?_)
  refine wpAny_bind (wpAny_callSpecial?_slot (name := Str.ofString "__setitem__") hT slot_list_setitem
    (wpAny_call_entry slot_list_setitem hT entry_list_setitem ?_ (args_list_setitem _ _ _)))
  show wpAny _ _ (Builtin.List.listSubscript? (.int (-1) t) >>= _) _ _ s
  refine wpAny_bind (wpAny_listSubscript_int (fitsIndex_neg (by decide) (by decide)) ?_)
  have hidx := seqIndex_neg (k := -1) (n := items.size) (by decide) (by omega)
  have e1 : ((-1 : Int) + items.size).toNat = items.size - 1 := by omega
  rw [e1] at hidx
  have hx : items[items.size - 1]? = some items[items.size - 1] := Array.getElem?_eq_getElem (by omega)
  show wpAny _ _ ((Builtin.List.listItems (.ref l) >>= fun xs => pure ((seqIndex? (Int.negSucc 0) xs.size).bind fun i => xs[i]?.map (i, ·))) >>= _) _ _ s
  refine wpAny_bind (wpAny_bind ?_)
  show wpAny _ _ (seqItems? (.ref l) >>= _) _ _ s
  refine wpAny_bind (wpAny_seqItems ho rfl (wpAny_pure (wpAny_pure ?_)))
  rw [show (Int.negSucc 0) = (-1 : Int) from rfl, hidx]
  simp only [Option.bind_some, hx, Option.map_some]
  show wpAny _ _ (setSeqItemAt l (items.size - 1) v >>= _) _ _ s
  obtain ⟨n', hd'⟩ : ∃ n', (s.heap.update l (Obj.mapSeq (·.setIfInBounds (items.size - 1) v))).get? l = some { cls := .type "list", data := .seq (items.setIfInBounds (items.size - 1) v) n' } := ⟨_, get?_update_seq ho fun xs => xs.setIfInBounds (items.size - 1) v⟩
  refine wpAny_bind (wpAny_setSeqItemAt ho rfl ?_)
  first
    | exact wpAny_bind (wpAny_pure (wpAny_pure ⟨.none, rfl, wpAny_pure (hQ _ ⟨n', hd'⟩ (Heap.SameBut.update ..))⟩))
    | exact wpAny_pure ⟨.none, rfl, wpAny_pure (hQ _ ⟨n', hd'⟩ (Heap.SameBut.update ..))⟩
end

/-! ## what _law_words does, in plain words -/
def sg8 : List Nat := [97, 65, 98, 66, 32, 9, 45, 67]
def Sg8 (l : List Nat) : Prop := ∀ c ∈ l, c ∈ sg8
theorem Sg8.sg {l : List Nat} (h : Sg8 l) : Sg l := fun c hc => by
  have g : ∀ c ∈ sg8, c ∈ sgs := by decide
  exact g c (h c hc)
theorem cap_snoc (r : List Nat) (c : Nat) : capL (r ++ [c]) = capL r ++ [if capL r = [] then ups c else lows c] := by
  cases r with
  | nil => rfl
  | cons a r => simp [capL]
structure Rel (p : List Nat) (ini : List (List Nat)) (las : List Nat) : Prop where
  last : las = capL (scanL p).2
  init : ini.filter (fun w => !decide (w = [])) = (scanL p).1.map capL
theorem scanL_snoc (p : List Nat) (c : Nat) : scanL (p ++ [c]) = stepL (scanL p) c := by
  unfold scanL; rw [List.foldl_append]; rfl
theorem capL_nil {r : List Nat} : capL r = [] ↔ r = [] := by cases r <;> simp [capL]
theorem Rel.sp {p : List Nat} {ini : List (List Nat)} {las : List Nat} {c : Nat} (R : Rel p ini las) (hc : Unicode.isSpace c = true) : Rel (p ++ [c]) (ini ++ [las]) [] := by
  obtain ⟨r1, r2⟩ := R
  have e := scanL_snoc p c
  unfold stepL at e
  rw [if_pos hc] at e
  by_cases h : (scanL p).2 = []
  · rw [if_pos h] at e
    refine ⟨by rw [e, h]; rfl, ?_⟩
    rw [List.filter_append, r2, r1, e, h]
    simp [capL]
  · rw [if_neg h] at e
    refine ⟨by rw [e]; rfl, ?_⟩
    have h' : las ≠ [] := by rw [r1]; exact fun q => h (capL_nil.mp q)
    rw [List.filter_append, r2, e, List.map_append]
    rw [r1] at h' ⊢
    simp [h']
theorem Rel.sign {p : List Nat} {ini : List (List Nat)} {las : List Nat} {c : Nat} (R : Rel p ini las) (hc : Unicode.isSpace c = false) : Rel (p ++ [c]) ini (las ++ [if las = [] then ups c else lows c]) := by
  obtain ⟨r1, r2⟩ := R
  have e := scanL_snoc p c
  unfold stepL at e
  rw [if_neg (by rw [hc]; decide)] at e
  refine ⟨?_, by rw [e]; exact r2⟩
  rw [e]
  show _ = capL ((scanL p).2 ++ [c])
  rw [cap_snoc, r1]
theorem Rel.fin {p : List Nat} {ini : List (List Nat)} {las : List Nat} (R : Rel p ini las) : (ini ++ [las]).filter (fun w => !decide (w = [])) = WL p := by
  obtain ⟨r1, r2⟩ := R
  unfold WL wordsL finL
  rw [List.filter_append, r2]
  by_cases h : (scanL p).2 = []
  · rw [if_pos h, r1, h]; simp [capL]
  · rw [if_neg h, List.map_append]
    have h' : las ≠ [] := by rw [r1]; exact fun q => h (capL_nil.mp q)
    rw [r1] at h' ⊢
    simp [h']
theorem sg8_facts : ∀ c ∈ sg8, Unicode.isSpace c = Txt.contains (Str.ofString " \t") ⟨#[c]⟩ ∧ c < 128 ∧
    (Unicode.isSpace c = false → ((Txt.find (Str.ofString "aAbBcC") ⟨#[c]⟩).fdiv 2 < 0 → ups c = c ∧ lows c = c) ∧
      (¬ (Txt.find (Str.ofString "aAbBcC") ⟨#[c]⟩).fdiv 2 < 0 → (seqIndex? ((Txt.find (Str.ofString "aAbBcC") ⟨#[c]⟩).fdiv 2) 3).bind ((Str.ofString "ABC").cps[·]?) = some (ups c) ∧
        (seqIndex? ((Txt.find (Str.ofString "aAbBcC") ⟨#[c]⟩).fdiv 2) 3).bind ((Str.ofString "abc").cps[·]?) = some (lows c) ∧ (Txt.find (Str.ofString "aAbBcC") ⟨#[c]⟩).fdiv 2 < 3)) := by decide +kernel
end Mine

set_option maxRecDepth 100000
set_option maxHeartbeats 4000000
namespace Mine
open PySem.Calls Builtin

/-! ## _law_words -/
structure WSt (s₀ : Shared) (L : Addr) (t : Str) (tk : Tok) (i : Nat) (s : Shared) : Prop where
  ns : ∃ m, s.heap.Ns L m ∧ m "words" = some (.ref (L + 1))
  it : s.heap.IsStrIter (L + 2) "str_ascii_iterator" t tk i
  ls : ∃ (zs : List (Str × Tok)) (ini : List (List Nat)) (las : List Nat), s.heap.PlainList (L + 1) (strValues zs).toArray ∧ zs.map (fun z => cp z.1) = ini ++ [las] ∧ Rel ((cp t).take i) ini las ∧ zs.length ≤ i + 1 ∧ ∀ z ∈ zs, z.1.length ≤ i
  sz : s.heap.objs.size = L + 3
  kp : Kp s₀.heap s.heap
  gens : s.gens = s₀.gens
  dr : s.drawn = s₀.drawn
  os : s.os = s₀.os
theorem strV_len (zs : List (Str × Tok)) : (strValues zs).length = zs.length := by simp [strValues]
theorem sv_last {zs : List (Str × Tok)} {ini : List (List Nat)} {las : List Nat} (h : zs.map (fun z => cp z.1) = ini ++ [las]) :
    ∃ (zi : List (Str × Tok)) (zl : Str × Tok), zs = zi ++ [zl] ∧ zi.map (fun z => cp z.1) = ini ∧ cp zl.1 = las := by
  have hne : zs ≠ [] := by rintro rfl; simp at h
  refine ⟨zs.dropLast, zs.getLast hne, (List.dropLast_concat_getLast hne).symm, ?_, ?_⟩
  · have := congrArg List.dropLast h
    rwa [List.dropLast_concat, ← List.map_dropLast] at this
  · have e : (zs.map (fun z => cp z.1)).getLast? = some las := by rw [h]; simp
    rw [List.getLast?_map, List.getLast?_eq_some_getLast hne] at e
    simpa using e
section
variable {w : World} {A : Around} {E : Value → Shared → Prop} {s : Shared}
noncomputable abbrev WE (w : World) (L : Addr) : Env := callEnvC (fdAt w 48) L 48
/-- words[-1] is read -/
theorem rd_last {L : Addr} {m : Str → Option Value} {zi : List (Str × Tok)} {zl : Str × Tok} {p1 p2 p3 p4 : Pos} {k : Nat} {Q : Value → Shared → Prop} (N : s.heap.Ns L m) (hm : m "words" = some (.ref (L + 1))) (pl : s.heap.PlainList (L + 1) (strValues (zi ++ [zl])).toArray)
    (hQ : ∀ tk, Q (.str zl.1 zl.2) { s with toks := tk }) : wpAny (MM w) A (eval (.Subscript (.Name "words" p1) (.UnaryOp .USub (.Constant (.int 1) k p2) p3) p4) (WE w L)) Q E s := by
  refine Subscript_ ?_
  refine nm_local N hm ?_ (by kernel_rfl) (by kernel_rfl)
  refine UnaryOp_ ?_
  refine wpAny_Constant_int ?_
  refine P.neg_int ?_
  have hz : (strValues (zi ++ [zl])).toArray.size = zi.length + 1 := by simp [strValues]
  refine tail_any (s := { s with toks := _ }) (pl.isList : s.heap.IsList _ _).typeIs slot_list_getitem.lookup (wpAny_getItem_list_neg (x := .str zl.1 zl.2) pl.isList (by decide) (by rw [hz]; omega) (by decide) ?_ (hQ _)) (by with_unfolding_all rfl)
  rw [hz]
  have e : ((-1 : Int) + ((zi.length + 1 : Nat) : Int)).toNat = zi.length := by omega
  rw [e]
  simp [strValues]
end

def forBody : Stmt → List Stmt
  | .For _ _ b _ _ => b
  | _ => []
def forTgt : Stmt → Expr
  | .For t _ _ _ _ => t
  | _ => .Constant .none 0 ⟨0, 0, 0, 0⟩
theorem sv_set (zi : List (Str × Tok)) (zl : Str × Tok) (x : Str) (u : Tok) : ((strValues (zi ++ [zl])).toArray.setIfInBounds ((strValues (zi ++ [zl])).toArray.size - 1) (.str x u)) = (strValues (zi ++ [(x, u)])).toArray := by
  have hz : (strValues (zi ++ [zl])).toArray.size - 1 = zi.length := by simp [strValues]
  rw [hz, List.setIfInBounds_toArray]
  congr 1
  simp [strValues]
theorem words_if {w : World} {A : Around} {E : Value → Shared → Prop} {Q : Flow → Shared → Prop} {s₀ s : Shared} {L : Addr} {t : Str} {tk u1 u2 : Tok} {i c : Nat} {kd : Int} {m : Str → Option Value} {zi : List (Str × Tok)} {zl : Str × Tok} {ini : List (List Nat)} {las : List Nat}
    (lo : ∀ b o, s₀.heap.get? b = some o → b ≠ L ∧ b ≠ L + 1 ∧ b ≠ L + 2) (f1 : Unicode.isSpace c = Txt.contains ⟨⟨[32, 9]⟩⟩ ⟨#[c]⟩)
    (f3 : Unicode.isSpace c = false → (kd < 0 → ups c = c ∧ lows c = c) ∧ (¬ kd < 0 → (seqIndex? kd 3).bind ((Str.ofString "ABC").cps[·]?) = some (ups c) ∧ (seqIndex? kd 3).bind ((Str.ofString "abc").cps[·]?) = some (lows c) ∧ kd < 3))
    (htake : (cp t).take (i + 1) = (cp t).take i ++ [c]) (N : s.heap.Ns L m) (hmw : m "words" = some (.ref (L + 1))) (hms : m "sign" = some (.str ⟨#[c]⟩ u1)) (hmk : m "kind" = some (.int kd u2))
    (hit : s.heap.IsStrIter (L + 2) "str_ascii_iterator" t tk (i + 1)) (pl : s.heap.PlainList (L + 1) (strValues (zi ++ [zl])).toArray) (hzi : zi.map (fun z => cp z.1) = ini) (hzl : cp zl.1 = las) (R : Rel ((cp t).take i) ini las)
    (hlen : (zi ++ [zl]).length ≤ i + 1) (hw : ∀ z ∈ zi ++ [zl], z.1.length ≤ i) (hi : i < 6) (sz : s.heap.objs.size = L + 3) (kp : Kp s₀.heap s.heap) (g : s.gens = s₀.gens) (d : s.drawn = s₀.drawn) (o : s.os = s₀.os)
    (hQ : ∀ s', WSt s₀ L t tk (i + 1) s' → Q .next s') : wpAny (MM w) A (execs ((forBody (stAt (bdAt w 48) 1)).drop 1) (WE w L)) Q E s := by
  have n01 : L ≠ L + 1 := Nat.ne_of_lt (Nat.lt_succ_self _)
  have n12 : L + 1 ≠ L + 2 := Nat.ne_of_lt (Nat.lt_succ_self _)
  have fin : ∀ h' tk' (zs : List (Str × Tok)) ini' las', h'.PlainList (L + 1) (strValues zs).toArray → Heap.SameBut (L + 1) s.heap h' → zs.map (fun z => cp z.1) = ini' ++ [las'] → Rel ((cp t).take (i + 1)) ini' las' → zs.length ≤ i + 2 → (∀ z ∈ zs, z.1.length ≤ i + 1) →
      WSt s₀ L t tk (i + 1) { s with heap := h', toks := tk' } := fun h' tk' zs ini' las' p sb e1 e2 e3 e4 =>
    ⟨⟨m, N.sameBut sb n01, hmw⟩, hit.extBut sb.extBut (Ne.symm n12), ⟨zs, ini', las', p, e1, e2, e3, e4⟩, by show h'.objs.size = _; rw [sb.1, sz], fun b o e => sb.extBut b o (lo b o e).2.1 (kp b o e), g, d, o⟩
  have hlz : zl.1.length ≤ i := hw zl (by simp)
  refine wpAny_execs_cons ?_
  refine wpAny_If ?_
  refine wpAny_isTrue_Compare1 ?_
  refine nm_local N hms ?_ (by kernel_rfl) (by kernel_rfl)
  refine wpAny_Constant_str ?_
  refine SB.contains ?_
  refine wpAny_truthy_bool ?_
  cases hsp : Unicode.isSpace c with
  | true =>
    rw [if_pos (by rw [← f1]; exact hsp)]
    refine wpAny_execs_cons (wpAny_Expr ?_ (by kernel_rfl) (by kernel_rfl))
    refine Call_method1 (by kernel_rfl) (by kernel_rfl) (by kernel_rfl) ?_
    refine nm_local N hmw ?_ (by kernel_rfl) (by kernel_rfl)
    refine ⟨"list", "list.append", F.plainAttrs_list, F.slot_list_append, F.type_list_append, pl.isList.typeIs, fun a e => by cases e; obtain ⟨n, e⟩ := pl; exact ⟨_, e, rfl⟩, ?_⟩
    refine callWith_builtin rfl (evalArgs_plain (spliced_cons ?_))
    refine wpAny_Constant_str ?_
    refine spliced_nil ?_
    refine wpAny_list_append_plain pl (fun h5 pl5 sb5 => ?_) (by rw [List.size_toArray, strV_len, sizeLine_eq]; omega)
    refine wpAny_execs_nil ?_
    refine wpAny_execs_nil ?_
    refine hQ _ (fin h5 _ (zi ++ [zl] ++ [(⟨⟨[]⟩⟩, s.toks + 1)]) (ini ++ [las]) [] ?_ sb5 ?_ ?_ ?_ ?_)
    · have e : (strValues (zi ++ [zl] ++ [(⟨⟨[]⟩⟩, s.toks + 1)])).toArray = (strValues (zi ++ [zl])).toArray.push (.str ⟨⟨[]⟩⟩ (s.toks + 1)) := by simp [strValues]
      rw [e]; exact pl5
    · rw [List.map_append, List.map_append, hzi]
      simp [hzl]
    · rw [htake]; exact R.sp hsp
    · rw [List.length_append, List.length_singleton]; omega
    · intro z hz
      rcases List.mem_append.mp hz with hz | hz
      · exact Nat.le_succ_of_le (hw z hz)
      · rw [List.mem_singleton] at hz; subst hz; exact Nat.zero_le _
  | false =>
    obtain ⟨g1, g2⟩ := f3 hsp
    have R' := R.sign hsp
    rw [if_neg (by rw [← f1, hsp]; decide)]
    have put : ∀ {h' : Heap} {x : Str} {u : Tok} {tk' : Nat}, cp x = las ++ [if las = [] then ups c else lows c] → x.length ≤ i + 1 → h'.PlainList (L + 1) (strValues (zi ++ [(x, u)])).toArray → Heap.SameBut (L + 1) s.heap h' → WSt s₀ L t tk (i + 1) { s with heap := h', toks := tk' } := fun {h' x u tk'} ex hx p sb => by
      refine fin h' tk' (zi ++ [(x, u)]) ini _ p sb ?_ (by rw [htake]; exact R') ?_ ?_
      · rw [List.map_append, hzi]; simp [ex]
      · rw [List.length_append, List.length_singleton] at hlen ⊢; omega
      · intro z hz
        rcases List.mem_append.mp hz with hz | hz
        · exact Nat.le_succ_of_le (hw z (List.mem_append_left _ hz))
        · rw [List.mem_singleton] at hz; subst hz; exact hx
    have wr : ∀ {s' : Shared} {p1 p2 p3 : Pos} {k : Nat} {x : Str} {u : Tok} {Q' : Unit → Shared → Prop} {E' : Value → Shared → Prop}, s'.heap = s.heap → (∀ h' tk', h'.PlainList (L + 1) (strValues (zi ++ [(x, u)])).toArray → Heap.SameBut (L + 1) s.heap h' → Q' () { s' with heap := h', toks := tk' }) →
        wpAny (MM w) A (eval (.Name "words" p1) (WE w L)) (fun ov s₂ => wpAny (MM w) A (eval (.UnaryOp .USub (.Constant (.int 1) k p2) p3) (WE w L)) (fun iv s₃ => wpAny (MM w) A (setItem ov iv (.str x u)) Q' E' s₃) E' s₂) E' s' := by
      intro s' p1 p2 p3 k x u Q' E' hs hq
      refine nm_local (by rw [hs]; exact N) hmw ?_ (by kernel_rfl) (by kernel_rfl)
      refine UnaryOp_ ?_
      refine wpAny_Constant_int ?_
      refine P.neg_int ?_
      refine set_last (by show s'.heap.PlainList _ _; rw [hs]; exact pl) (by simp [strValues]) fun h' p sb => ?_
      rw [sv_set] at p
      exact hq h' _ p (by rw [← hs]; exact sb)
    refine wpAny_execs_cons ?_
    refine wpAny_If ?_
    refine wpAny_isTrue_Compare1 ?_
    refine nm_local N hmk ?_ (by kernel_rfl) (by kernel_rfl)
    refine wpAny_Constant_int ?_
    refine P.lt_int ?_
    refine wpAny_truthy_bool ?_
    by_cases hkd : kd < 0
    · obtain ⟨q1, q2⟩ := g1 hkd
      rw [if_pos (by simpa using hkd)]
      refine wpAny_execs_cons (wpAny_Assign_Subscript ?_ (by kernel_rfl))
      refine wpAny_BinOp ?_
      refine rd_last N hmw pl fun tk5 => ?_
      refine nm_local N hms ?_ (by kernel_rfl) (by kernel_rfl)
      refine PyProof.Rows.add_str (fun t1 k1 => ?_) (by show zl.1.length + 1 ≤ 16777216; omega)
      refine wr rfl fun h' tk' p sb => ?_
      refine wpAny_execs_nil ?_
      refine wpAny_execs_nil ?_
      refine wpAny_execs_nil ?_
      refine hQ _ (put ?_ ?_ p sb)
      · rw [cp_append, hzl, q1, q2, ite_self]
      · rw [Str.length_append]; show zl.1.length + 1 ≤ _; omega
    · obtain ⟨q1, q2, q3⟩ := g2 hkd
      rw [if_neg (by simpa using hkd)]
      refine wpAny_execs_cons (wpAny_Assign_Subscript ?_ (by kernel_rfl))
      refine wpAny_BinOp ?_
      refine rd_last N hmw pl fun tk5 => ?_
      refine IfExp_ ?_
      refine wpAny_isTrue_Compare1 ?_
      refine rd_last N hmw pl fun tk6 => ?_
      refine wpAny_Constant_str ?_
      refine P.eq_str ?_
      refine wpAny_truthy_bool ?_
      have hr : (decide (kd < -(2 ^ 63 : Int)) || decide (kd ≥ 2 ^ 63)) = false := by
        rw [Bool.or_eq_false_iff, decide_eq_false_iff_not, decide_eq_false_iff_not]; omega
      by_cases hla : las = []
      · rw [if_pos (by rw [show zl.1.cps.toList = las from hzl, hla]; rfl)]
        refine Subscript_ ?_
        refine wpAny_Constant_str ?_
        refine nm_local N hmk ?_ (by kernel_rfl) (by kernel_rfl)
        refine tail_any (typeIs_str _ _ _) F.slot_str_getitem.lookup (P.getItem_str (c := ups c) hr q1 ?_) (by with_unfolding_all rfl)
        refine PyProof.Rows.add_str (fun t1 k1 => ?_) (by show zl.1.length + 1 ≤ 16777216; omega)
        refine wr rfl fun h' tk' p sb => ?_
        refine wpAny_execs_nil ?_
        refine wpAny_execs_nil ?_
        refine wpAny_execs_nil ?_
        refine hQ _ (put ?_ ?_ p sb)
        · rw [cp_append, hzl, if_pos hla]
        · rw [Str.length_append]; show zl.1.length + 1 ≤ _; omega
      · rw [if_neg (by rw [show zl.1.cps.toList = las from hzl]; simpa using hla)]
        refine Subscript_ ?_
        refine wpAny_Constant_str ?_
        refine nm_local N hmk ?_ (by kernel_rfl) (by kernel_rfl)
        refine tail_any (typeIs_str _ _ _) F.slot_str_getitem.lookup (P.getItem_str (c := lows c) hr q2 ?_) (by with_unfolding_all rfl)
        refine PyProof.Rows.add_str (fun t1 k1 => ?_) (by show zl.1.length + 1 ≤ 16777216; omega)
        refine wr rfl fun h' tk' p sb => ?_
        refine wpAny_execs_nil ?_
        refine wpAny_execs_nil ?_
        refine wpAny_execs_nil ?_
        refine hQ _ (put ?_ ?_ p sb)
        · rw [cp_append, hzl, if_neg hla]
        · rw [Str.length_append]; show zl.1.length + 1 ≤ _; omega
theorem words_loop {w : World} {A : Around} {R : Result → Shared → Prop} {s₀ s : Shared} {L : Addr} (hL : L = s₀.heap.objs.size) {t : Str} {tk : Tok} (hA : A.handled = none) (ht : Sg8 (cp t)) (hl : t.length ≤ 6) (st : WSt s₀ L t tk 0 s)
    (hR : ∀ s', (∃ m, s'.heap.Ns L m ∧ m "words" = some (.ref (L + 1))) → (∃ zs : List (Str × Tok), s'.heap.PlainList (L + 1) (strValues zs).toArray ∧ (zs.map (fun z => cp z.1)).filter (fun w => !decide (w = [])) = WL (cp t) ∧ zs.length ≤ 7 ∧ ∀ z ∈ zs, z.1.length ≤ 6) →
      s'.heap.objs.size = L + 5 → Nx s₀ s' → R (.ok .next) s') (X : (KK w).In s₀.heap) :
    codeAny (MM w) A (.forLoop (forTgt (stAt (bdAt w 48) 1)) (.ref (L + 2)) (forBody (stAt (bdAt w 48) 1)) [] (WE w L)) R s := by
  have n01 : L ≠ L + 1 := Nat.ne_of_lt (Nat.lt_succ_self _)
  have n02 : L ≠ L + 2 := Nat.ne_of_lt (Nat.lt_succ_of_lt (Nat.lt_succ_self _))
  have n12 : L + 1 ≠ L + 2 := Nat.ne_of_lt (Nat.lt_succ_self _)
  have lo : ∀ b o, s₀.heap.get? b = some o → b ≠ L ∧ b ≠ L + 1 ∧ b ≠ L + 2 := fun b o e => by have := Heap.lt_size e; rw [← hL] at this; exact ⟨Nat.ne_of_lt this, Nat.ne_of_lt (Nat.lt_succ_of_lt this), Nat.ne_of_lt (Nat.lt_succ_of_lt (Nat.lt_succ_of_lt this))⟩
  refine codeAny_forLoop (fun n s' => ∃ i, n = t.length + 1 - i ∧ i ≤ t.length ∧ WSt s₀ L t tk i s') ?_ (t.length + 1) ⟨0, rfl, Nat.zero_le _, st⟩ (by intro _; kernel_rfl)
  rintro _ s1 ⟨i, rfl, hi, st1⟩
  obtain ⟨⟨m1, N1, hm1⟩, it1, ⟨zs, ini, las, pl1, hz1, R1, hlen1, hw1⟩, sz1, kp1, g1, d1, o1⟩ := st1
  cases hx : t.cps[i]? with
  | none =>
    have hin : i = t.length := Nat.le_antisymm hi (by simpa [Str.length] using hx)
    refine pn_str_end hA it1 hx fun h2 eb2 z2 => ?_
    refine wpAny_execs_nil ?_
    refine hR _ ⟨m1, N1.extBut eb2 n02, hm1⟩ ⟨zs, pl1.at fun o e => eb2 _ _ n12 e, ?_, by omega, fun z hz => Nat.le_trans (hw1 z hz) (by omega)⟩ (by show h2.objs.size = _; rw [z2, sz1]) ⟨fun b o e => eb2 b o (lo b o e).2.2 (kp1 b o e), g1, d1, o1⟩
    rw [hz1, R1.fin, hin]
    congr 1
    exact List.take_of_length_le (by rw [Array.length_toList]; exact Nat.le_refl _)
  | some c =>
    have hlt : i < t.length := (Array.getElem?_eq_some_iff.mp hx).1
    have hcm : c ∈ cp t := by
      have : (cp t)[i]? = some c := by rw [Array.getElem?_toList]; exact hx
      exact List.mem_of_getElem? this
    have hc8 := ht c hcm
    obtain ⟨f1, f2, f3⟩ := sg8_facts c hc8
    rw [show Str.ofString " \t" = ⟨⟨[32, 9]⟩⟩ from by kernel_rfl] at f1
    rw [show Str.ofString "aAbBcC" = ⟨⟨[97, 65, 98, 66, 99, 67]⟩⟩ from by kernel_rfl] at f3
    have htake : (cp t).take (i + 1) = (cp t).take i ++ [c] := by
      rw [List.take_add_one, Array.getElem?_toList, hx]; rfl
    obtain ⟨zi, zl, rfl, hzi, hzl⟩ := sv_last hz1
    have hlz : zl.1.length ≤ i := hw1 zl (by simp)
    refine wpAny_pyNext_ascii_item it1 hx fun h2 it2 sb2 => ?_
    refine wpAny_assign_Name (wpAny_storeName_local (by kernel_rfl) (N1.sameBut sb2 n02) (fun h3 N3 sb3 => ?_) (by kernel_rfl))
    have it3 : h3.IsStrIter (L + 2) "str_ascii_iterator" t tk (i + 1) := it2.extBut sb3.extBut (Ne.symm n02)
    have pl3 : h3.PlainList (L + 1) (strValues (zi ++ [zl])).toArray := pl1.at fun o e => sb3.extBut _ _ (Ne.symm n01) (sb2.extBut _ _ n12 e)
    have kp3 : Kp s₀.heap h3 := fun b o e => sb3.extBut b o (lo b o e).1 (sb2.extBut b o (lo b o e).2.2 (kp1 b o e))
    have z3 : h3.objs.size = L + 3 := by rw [sb3.1, sb2.1, sz1]
    refine wpAny_execs_cons ?_
    refine wpAny_Assign_Name ?_ (by kernel_rfl)
    refine wpAny_BinOp ?_
    refine Call_method1 (by kernel_rfl) (by kernel_rfl) (by kernel_rfl) ?_
    refine wpAny_Constant_str ?_
    refine ⟨"str", "str.find", F.plainAttrs_str, F.slot_str_find, F.type_str_find, typeIs_str _ _ _, nref, ?_⟩
    refine callWith_builtin rfl (evalArgs_plain (spliced_cons ?_))
    refine nm_local N3 (v := .str ⟨#[c]⟩ s1.toks) (by rw [if_pos (by decide)]) ?_ (by kernel_rfl) (by kernel_rfl)
    refine spliced_nil ?_
    refine SC.find ?_
    refine wpAny_Constant_int ?_
    refine floordiv_int (by decide) ?_ (.inl (PyProof.noPylong_small (by decide)))
    generalize hkd : (Txt.find ⟨⟨[97, 65, 98, 66, 99, 67]⟩⟩ ⟨#[c]⟩).fdiv 2 = kd at f3 ⊢
    refine wpAny_storeName_local (by kernel_rfl) N3 (fun h4 N4 sb4 => ?_) (by kernel_rfl)
    have it4 : h4.IsStrIter (L + 2) "str_ascii_iterator" t tk (i + 1) := it3.extBut sb4.extBut (Ne.symm n02)
    have pl4 : h4.PlainList (L + 1) (strValues (zi ++ [zl])).toArray := pl3.at fun o e => sb4.extBut _ _ (Ne.symm n01) e
    have kp4 : Kp s₀.heap h4 := fun b o e => sb4.extBut b o (lo b o e).1 (kp3 b o e)
    have z4 : h4.objs.size = L + 3 := by rw [sb4.1, z3]
    obtain ⟨m4, N5, k1, k2, u2, k3⟩ : ∃ m4 : Str → Option Value, h4.Ns L m4 ∧ m4 "words" = some (.ref (L + 1)) ∧ m4 "sign" = some (.str ⟨#[c]⟩ s1.toks) ∧ ∃ u, m4 "kind" = some (.int kd u) :=
      ⟨_, N4, by rw [if_neg (by decide), if_neg (by decide)]; exact hm1, by rw [if_neg (by decide), if_pos (by decide)], _, by rw [if_pos (by decide)]⟩
    refine words_if (i := i) (c := c) (kd := kd) lo f1 f3 htake N5 k1 k2 k3 it4 pl4 hzi hzl R1 hlen1 hw1 (by omega) z4 kp4 g1 d1 o1 fun s' st' => ?_
    exact ⟨t.length + 1 - (i + 1), by omega, i + 1, rfl, hlt, st'⟩
end Mine

set_option maxRecDepth 100000
set_option maxHeartbeats 4000000
namespace Mine
open PySem.Calls Builtin

theorem words_c {w : World} {A : Around} {s : Shared} {Q E : Value → Shared → Prop} (ok : Okay 2 A) (X : (KK w).In s.heap) {t : Str} {tk : Tok} (ht : Sg8 (cp t)) (hl : t.length ≤ 6)
    (hQ : ∀ tk' s', Nx s s' → s'.heap.objs.size = s.heap.objs.size + 10 → Q (.str (capw t) tk') s') : wpAny (MM w) A (call (.ref 48) [.str t tk]) Q E s := by
  refine wpAny_call ?_
  refine enterZ (fdAt w 48) (bdAt w 48) "title" (.str t tk) ok.room X (by kernel_rfl) (by kernel_rfl) (by kernel_rfl) (by kernel_rfl) (by kernel_rfl) (by kernel_rfl) (by kernel_rfl) (by kernel_rfl) (by kernel_rfl) (by kernel_rfl) ?_
  intro h0 tk0 N0 sb0
  rw [show pushCells (s.heap.push { cls := .type "frame", data := .dict #[] }) (fdAt w 48).scope.names = s.heap.push { cls := .type "frame", data := .dict #[] } from by kernel_rfl] at sb0
  generalize hL : s.heap.objs.size = L at *
  have ok1 := ok.deeper (callEnvC (fdAt w 48) L 48)
  have n01 : L ≠ L + 1 := Nat.ne_of_lt (Nat.lt_succ_self _)
  have n02 : L ≠ L + 2 := Nat.ne_of_lt (Nat.lt_succ_of_lt (Nat.lt_succ_self _))
  have n12 : L + 1 ≠ L + 2 := Nat.ne_of_lt (Nat.lt_succ_self _)
  have lo : ∀ b o, s.heap.get? b = some o → b ≠ L ∧ b ≠ L + 1 ∧ b ≠ L + 2 := fun b o e => by have := Heap.lt_size e; rw [hL] at this; exact ⟨Nat.ne_of_lt this, Nat.ne_of_lt (Nat.lt_succ_of_lt this), Nat.ne_of_lt (Nat.lt_succ_of_lt (Nat.lt_succ_of_lt this))⟩
  have k0 : Kp s.heap h0 := fun b o e => sb0.extBut b o (lo b o e).1 (Heap.get?_push_of_some _ e)
  have z0 : h0.objs.size = L + 1 := by rw [sb0.1, Heap.size_push, hL]
  refine wpAny_execs_cons ?_
  refine wpAny_Assign_Name ?_ (by kernel_rfl)
  refine wpAny_List ?_
  refine args_cons ?_ (by kernel_rfl)
  refine wpAny_Constant_str ?_
  refine args_nil ?_
  refine ⟨(by show 1 ≤ 16777216; decide), ?_⟩
  dsimp only
  rw [z0]
  generalize hH1 : h0.push { cls := .type "list", data := .seq [Value.str ⟨⟨[]⟩⟩ tk0].toArray } = H1
  have z1 : H1.objs.size = L + 2 := by rw [← hH1, Heap.size_push, z0]
  have k1 : Kp h0 H1 := fun b o e => hH1 ▸ Heap.get?_push_of_some _ e
  have pl1 : H1.PlainList (L + 1) (strValues [(⟨⟨[]⟩⟩, tk0)]).toArray := by rw [← z0, ← hH1]; exact ⟨_, Heap.get?_push_size _ rfl⟩
  refine wpAny_storeName_local (by kernel_rfl) (N0.keeps k1) (fun h2 N2 sb2 => ?_) (by kernel_rfl)
  have pl2 : h2.PlainList (L + 1) (strValues [(⟨⟨[]⟩⟩, tk0)]).toArray := pl1.at fun o e => sb2.extBut _ _ (Ne.symm n01) e
  have kp2 : Kp s.heap h2 := fun b o e => sb2.extBut b o (lo b o e).1 (k1 b o (k0 b o e))
  have z2 : h2.objs.size = L + 2 := by rw [sb2.1, z1]
  refine wpAny_execs_cons ?_
  refine wpAny_For ?_ (by intro _; kernel_rfl)
  refine nm_local N2 (v := .str t tk) (by rw [if_neg (by decide), if_pos (by decide)]) ?_ (by kernel_rfl) (by kernel_rfl)
  have hasc : t.cps.all (· < 128) = true := by
    rw [Array.all_eq_true']
    intro c hc
    simpa using (sg8_facts c (ht c (by simpa using hc))).2.1
  refine wpAny_pyIter_ascii hasc ?_
  dsimp only
  rw [z2]
  generalize hH3 : h2.push { cls := .type "str_ascii_iterator", data := .fields #[.str t tk, .int 0 0] } = H3
  have z3 : H3.objs.size = L + 3 := by rw [← hH3, Heap.size_push, z2]
  have k3 : Kp h2 H3 := fun b o e => hH3 ▸ Heap.get?_push_of_some _ e
  have it3 : H3.IsStrIter (L + 2) "str_ascii_iterator" t tk 0 := by rw [← z2, ← hH3]; exact ⟨_, Heap.get?_push_size _ rfl, rfl, rfl⟩
  refine words_loop (s₀ := s) (L := L) hL.symm ok1.hd ht hl ⟨⟨_, N2.keeps k3, by rw [if_pos (by decide)]⟩, it3, ⟨_, [], [], pl_kp pl2 k3, rfl, ⟨rfl, rfl⟩, by simp, by simp [Str.length]⟩, z3, kp2.trans k3, rfl, rfl, rfl⟩ ?_ X
  intro s4 ⟨m4, N4, hm4⟩ ⟨zs, pl4, hzs, hzl, hzw⟩ z4 nx4
  refine wpAny_execs_cons (wpAny_Return_some ?_)
  refine Call_method1 (by kernel_rfl) (by kernel_rfl) (by kernel_rfl) ?_
  refine wpAny_Constant_str ?_
  refine ⟨"str", "str.join", F.plainAttrs_str, F.slot_str_join, F.type_str_join, typeIs_str _ _ _, nref, ?_⟩
  refine callWith_builtin rfl (evalArgs_plain (spliced_cons ?_))
  generalize hs5 : ({ s4 with toks := s4.toks + 1 } : Shared) = s5
  have e5 : s5.heap = s4.heap := by rw [← hs5]
  have nx5 : Nx s s5 := by rw [← hs5]; exact ⟨nx4.kp, nx4.gens, nx4.dr, nx4.os⟩
  rw [← e5] at N4 pl4 z4
  have nz : ∀ v ∈ strValues zs, ∃ x u, v = .str x u ∧ x.length ≤ 6 := by
    intro v hv
    simp only [strValues, List.mem_map] at hv
    obtain ⟨z, hz, rfl⟩ := hv
    exact ⟨z.1, z.2, rfl, hzw z hz⟩
  refine lc_z (x := "word") (cl := []) (fun v => !decide (cp (sOf v) = [])) (fun v y f => y = v ∧ f = []) (some 0) (by kernel_rfl) (by kernel_rfl) (by kernel_rfl) (by kernel_rfl) (by kernel_rfl) ?_
  refine nm_local N4 hm4 ?_ (by kernel_rfl) (by kernel_rfl)
  refine wpAny_pyIter_list pl4.isList ?_
  have nI : ∀ b o, s5.heap.get? b = some o → b ≠ s5.heap.objs.size := fun b o e => Nat.ne_of_lt (Heap.lt_size e)
  have hne : L + 1 ≠ s5.heap.objs.size := by obtain ⟨n, e⟩ := pl4; exact nI _ _ e
  refine ⟨_, _, (strValues zs).toArray.size, _, _, rfl, WalkZ.list ok1.hd s5.heap.objs.size (L + 1) hne (strValues zs).toArray, by rw [List.size_toArray, strV_len]; omega, ⟨⟨_, Heap.get?_push_size _ rfl, rfl, rfl⟩, pl4.isList.push _⟩, ?_, ⟨?_, ?_⟩, ?_⟩
  · intro b hb
    simp only [List.mem_cons, List.not_mem_nil, or_false] at hb
    show b < (s5.heap.push _).objs.size
    rw [Heap.size_push]
    rcases hb with rfl | rfl
    · exact Nat.lt_succ_self _
    · obtain ⟨n, e⟩ := pl4; exact Nat.lt_succ_of_lt (Heap.lt_size e)
  · intro C i v s6 m6 E6 hC hP N6 hm6 k6
    obtain ⟨x, u, rfl, hx⟩ := nz v (by have := Array.mem_of_getElem? hP; simpa using this)
    refine wpAny_tests_one ?_
    refine wpAny_isTrue_Compare1 ?_
    refine nm_local N6 hm6 ?_ (by kernel_rfl) (by kernel_rfl)
    refine wpAny_Constant_str ?_
    refine P.ne_str ?_
    refine wpAny_truthy_bool ?_
    refine ⟨?_, ⟨Kp.refl _, rfl, rfl, rfl⟩, fun _ => rfl⟩
    rw [Bool.eq_iff_iff]
    simp [sOf]
  · intro C i v s6 m6 E6 hC hP _ N6 hm6 k6
    refine nm_local N6 hm6 ?_ (by kernel_rfl) (by kernel_rfl)
    exact ⟨⟨[], ⟨rfl, rfl⟩, fun q hq => by cases hq⟩, Nx.refl _, fun k e => by cases e; rfl⟩
  · intro s6 ys vs pl6 hlen6 hP6 hM6 k6 g6 d6 o6 z6
    have e1 : vs = strValues zs := by have := vs_items hlen6 hP6; simpa using this
    subst e1
    have hM' : ys.toList = (strValues zs).filter (fun v => !decide (cp (sOf v) = [])) := by
      have := made_map (g := id) hM6
      rw [List.map_id] at this
      exact this
    obtain ⟨ws, hws, hwn⟩ : ∃ ws : List (Str × Tok), ys = (strValues ws).toArray ∧ ws = zs.filter (fun z => !decide (cp z.1 = [])) := by
      refine ⟨_, ?_, rfl⟩
      apply Array.toList_inj.mp
      rw [hM']
      simp only [strValues, List.filter_map]
      rfl
    have hcps : (ws.map (·.1)).map cp = WL (cp t) := by
      rw [← hzs, hwn, List.map_map, List.filter_map]
      rfl
    have z6' := z6 0 rfl
    refine spliced_nil ?_
    rw [hws] at pl6
    refine SC.join pl6.isList rfl ?_ fun t7 k7 => ?_
    · unfold JoinOk
      rw [StrLaws.joinFits (B := 6)]
      · rfl
      · intro y hy
        obtain ⟨z, hz, rfl⟩ := List.mem_map.mp hy
        rw [hwn] at hz
        exact hzw z (List.mem_filter.mp hz).1
      · have h1 : (ws.map (·.1)).length ≤ 7 := by
          rw [List.length_map, hwn]
          exact Nat.le_trans (List.length_filter_le _ _) hzl
        have h2 : (" " : Str).length = 1 := by decide
        show _ * 6 + _ * (" " : Str).length ≤ _
        rw [h2]; omega
    · have e2 : Txt.join (⟨⟨[32]⟩⟩ : Str) (ws.map (·.1)) = capw t := by
        apply str_ext
        have := join_cp (ws.map (·.1))
        rw [hcps] at this
        rw [capw_cp ht.sg]
        exact this
      rw [e2]
      refine hQ _ _ ⟨fun b o e => k6 b o (nI b o (nx5.kp b o e)) (Heap.get?_push_of_some _ (nx5.kp b o e)), g6.trans nx5.gens, d6.trans nx5.dr, o6.trans nx5.os⟩ ?_
      show s6.heap.objs.size = _
      rw [z6']
      show (s5.heap.push _).objs.size + 4 + 0 * _ = _
      rw [Heap.size_push, z4]
      omega
end Mine

set_option maxRecDepth 100000
set_option maxHeartbeats 4000000
namespace Mine
open PySem.Calls Builtin

/-! ## sum of a list of small ints, with sizes -/
def Small (items : Array Value) : Prop := ∀ (i : Nat) (v : Value), items[i]? = some v → ∃ a t, v = Value.int a t ∧ 0 ≤ a ∧ a < 1000000
theorem sum_loop_z {w : World} {A : Around} {R : Result → Shared → Prop} (hA : A.handled = none) {I D S : Addr} {items : Array Value} (hDI : D ≠ I) (hSI : S ≠ I) (hSD : S ≠ D) (hv : Small items) (hn : items.size ≤ 2 ^ 20) :
    ∀ (k i : Nat) (s : Shared) (acc : Int) (tA : Tok) (c : Nat), items.size - i = k → i ≤ items.size → s.heap.IsListIter I D i → s.heap.IsList D items → s.heap.get? S = some { cls := .type "list", dict := none, data := .seq #[.int acc tA] c, slots := #[] } → 0 ≤ acc → acc ≤ i * 1000000 →
    (∀ h' tk t' r, 0 ≤ r → r ≤ 2000000000000 → (∀ b o, b ≠ I → b ≠ S → s.heap.get? b = some o → h'.get? b = some o) → h'.objs.size = s.heap.objs.size + 2 → R (.ok (.ret (.int r t'))) { s with heap := h', toks := tk }) →
    codeAny (MM w) A (.builtin "sum.loop" ⟨[.ref I, .ref S, rawInt 0, rawInt 0], []⟩) R s := by
  intro k
  induction k with
  | zero =>
    intro i s acc tA c hk hi hit hl hS h0 h1 hR
    have hin : i = items.size := by omega
    refine codeAny_builtin F.entry_sum_loop ?_
    rw [Around.under_plainId F.plain_sum_loop _]
    show wpAny _ A.in1 (seqItems? (.ref S) >>= _) _ _ s
    refine wpAny_bind (wpAny_seqItems hS rfl ?_)
    show wpAny _ A.in1 (tryCatch (pyNext (.ref I)) _ >>= _) _ _ s
    refine wpAny_bind (wpAny_tryCatch (pn_list_end (w := w) (A := A.in1) hA hit hl (by rw [hin]; simp) fun h' eb z => ?_))
    exact wpAny_pure (hR h' _ tA acc h0 (by omega) (fun b o hb _ e => eb b o hb e) z)
  | succ k ih =>
    intro i s acc tA c hk hi hit hl hS h0 h1 hR
    have hlt : i < items.size := by omega
    obtain ⟨a, ta, hia, ha0, ha1⟩ := hv i items[i] (by simp [hlt])
    refine codeAny_builtin F.entry_sum_loop ?_
    rw [Around.under_plainId F.plain_sum_loop _]
    show wpAny _ A.in1 (seqItems? (.ref S) >>= _) _ _ s
    refine wpAny_bind (wpAny_seqItems hS rfl ?_)
    show wpAny _ A.in1 (tryCatch (pyNext (.ref I)) _ >>= _) _ _ s
    refine wpAny_bind (wpAny_tryCatch (wpAny_pyNext_list_item hit hl (x := .int a ta) (by rw [← hia]; simp [hlt]) fun h' hit' sb => ?_))
    have hS' := sb.extBut S _ hSI hS
    have hc : ((decide (-(2 ^ 63) ≤ a) && decide (a < 2 ^ 63)) && (decide (-(2 ^ 63) ≤ acc + a) && decide (acc + a < 2 ^ 63))) = true := by
      simp only [Bool.and_eq_true, decide_eq_true_eq]
      refine ⟨⟨?_, ?_⟩, ?_, ?_⟩ <;> omega
    show wpAny _ A.in1 (if (_ : Bool) = true then (mkInt (acc + a) >>= _) else _) _ _ _
    split
    · refine wpAny_bind (wpAny_mkInt ?_)
      show wpAny _ A.in1 (updateSeq S (fun _ => #[.int (acc + a) s.toks]) >>= _) _ _ _
      refine wpAny_bind ?_
      refine wpAny_updateSeq hS' rfl (wpAny_pure ⟨plainId_quiet F.plain_sum_loop _, ih (i + 1) _ (acc + a) s.toks _ (by omega) hlt ?_ ?_ (Heap.get?_update_self _ hS' rfl) (by omega) (by push_cast; omega) fun h'' tk'' t'' r r0 r1 hk'' z'' => ?_⟩)
      · exact hit'.at fun o e => (Heap.get?_update_other _ _ hSI).trans e
      · exact (hl.extBut sb.extBut hDI).at fun o e => (Heap.get?_update_other _ _ hSD).trans e
      · refine hR h'' tk'' t'' r r0 r1 (fun b o hb hbS e => hk'' b o hb hbS ((Heap.get?_update_other _ _ (Ne.symm hbS)).trans (sb.extBut b o hb e))) ?_
        rw [z'']
        show (h'.update S _).objs.size + 2 = _
        rw [Heap.size_update, sb.1]
    · rename_i hneg
      exact absurd hc hneg
theorem sum_z {w : World} {A : Around} {E Q : Value → Shared → Prop} {s : Shared} {D : Addr} {items : Array Value} (hA : A.handled = none) (hl : s.heap.IsList D items) (hv : Small items) (hn : items.size ≤ 2 ^ 20)
    (hQ : ∀ h' tk t' r, 0 ≤ r → r ≤ 2000000000000 → Kp s.heap h' → h'.objs.size = s.heap.objs.size + 4 → Q (.int r t') { s with heap := h', toks := tk }) :
    wpAny (MM w) A (call (.builtin "sum") [.ref D]) Q E s := by
  refine call_function_tree F.kind_sum F.plain_sum F.entry_sum (F.args_sum1 _) ?_
  unfold Builtin.«sum»
  simp only [List.length_cons, List.length_nil]
  rw [if_neg (by decide)]
  refine wpAny_bind (wpAny_of_eq (show Builtin.Builtins.bindParams "sum" ["start"] 0 { } = pure [none] from rfl) ?_)
  refine wpAny_bind (wpAny_pyIter_list hl ?_)
  refine wpAny_bind (wpAny_mkInt ?_)
  refine wpAny_bind (wpAny_pure ?_)
  simp only [List.forIn_cons, List.forIn_nil]
  refine wpAny_bind (wpAny_bind (wpAny_bind (wpAny_isInstance (T := "int") (b := false) (typeIs_int _ _ _) PySem.sub_int_str ?_)))
  simp only [Bool.false_eq_true, if_false]
  refine wpAny_pure (wpAny_bind (wpAny_bind (wpAny_isInstance (T := "int") (b := false) (typeIs_int _ _ _) PySem.sub_int_bytes ?_)))
  simp only [Bool.false_eq_true, if_false]
  refine wpAny_pure (wpAny_bind (wpAny_bind (wpAny_isInstance (T := "int") (b := false) (typeIs_int _ _ _) PySem.sub_int_bytearray ?_)))
  simp only [Bool.false_eq_true, if_false]
  refine wpAny_pure (wpAny_pure ?_)
  refine wpAny_bind (wpAny_newObj_type ?_)
  dsimp only
  generalize hH1 : s.heap.push { cls := .type "list_iterator", data := .fields #[.ref D, .int 0 0] } = H1
  have z1 : H1.objs.size = s.heap.objs.size + 1 := by rw [← hH1, Heap.size_push]
  have it1 : H1.IsListIter s.heap.objs.size D 0 := by rw [← hH1]; exact ⟨_, Heap.get?_push_size _ rfl, rfl, rfl⟩
  have k1 : Kp s.heap H1 := fun b o e => hH1 ▸ Heap.get?_push_of_some _ e
  have hD : D < s.heap.objs.size := by obtain ⟨o, e, _⟩ := hl; exact Heap.lt_size e
  refine wpAny_pure ⟨plainId_quiet F.plain_sum_loop _, sum_loop_z hA (I := s.heap.objs.size) (D := D) (S := H1.objs.size) (Nat.ne_of_lt hD) (by rw [z1]; exact Nat.ne_of_gt (Nat.lt_succ_self _)) (by rw [z1]; exact Nat.ne_of_gt (Nat.lt_succ_of_lt hD)) hv hn items.size 0 _ 0 s.toks 0 rfl (Nat.zero_le _)
    (it1.at fun o e => Heap.get?_push_of_some _ e) ((hl.at fun o e => k1 _ _ e).push _) (Heap.get?_push_size _ rfl) (by decide) (by simp) fun h' tk t' r r0 r1 hk z => ?_⟩
  refine hQ h' tk t' r r0 r1 (fun b o e => ?_) ?_
  · have hb := Heap.lt_size e
    exact hk b o (Nat.ne_of_lt hb) (by rw [z1]; exact Nat.ne_of_lt (Nat.lt_succ_of_lt hb)) (Heap.get?_push_of_some _ (k1 b o e))
  · rw [z]
    show (H1.push _).objs.size + 2 = _
    rw [Heap.size_push, z1]
end Mine

set_option maxRecDepth 100000
set_option maxHeartbeats 4000000
namespace Mine
open PySem.Calls Builtin

/-! ## _law_titles: one turn -/
noncomputable abbrev TE (w : World) (L : Addr) : Env := callEnvC (fdAt w 43) L 43
theorem pick_small (items : Array Value) (k : Int) : (slicePick items (some k) (some 63) (some 5)).size ≤ 63 := by
  unfold slicePick
  rw [List.size_toArray]
  refine Nat.le_trans (List.length_filterMap_le _ _) (sliceRange_length_le _ _ _ 63 (fun _ => ?_) fun hc => absurd (show (5 : Int) > 0 by decide) hc)
  simp only [sliceBounds, Option.getD_some]
  refine ⟨?_, ?_⟩ <;> simp <;> omega
theorem pick_mem {items : Array Value} {lo hi st : Option Int} {i : Nat} {v : Value} (h : (slicePick items lo hi st)[i]? = some v) : v ∈ items := by
  have h1 : v ∈ slicePick items lo hi st := Array.mem_of_getElem? h
  unfold slicePick at h1
  simp only [List.mem_toArray, List.mem_filterMap] at h1
  obtain ⟨a, _, e⟩ := h1
  exact Array.mem_of_getElem? e
theorem ints_mem {v : Value} : ∀ {vs : List Value} {ns : List Int}, IntsAre vs ns → v ∈ vs → ∃ a t, v = .int a t
  | _, _, .nil, h => by cases h
  | _, _, .cons n t r, h => by
    rcases List.mem_cons.mp h with rfl | h
    · exact ⟨n, t, rfl⟩
    · exact ints_mem r h
theorem made_all {G : Value → Prop} {B : Nat} {h : Heap} : ∀ {vs ys : List Value}, Made (fun _ y f => G y ∧ f = []) B h vs ys → ∀ y ∈ ys, G y
  | _, _, .nil, y, hy => by cases hy
  | _, _, .cons a _ r, y, hy => by
    rcases List.mem_cons.mp hy with rfl | hy
    · exact a.1
    · exact made_all r y hy
section
variable {w : World} {A : Around} {E : Value → Shared → Prop} {Q : Flow → Shared → Prop} {s : Shared} {L : Addr} {m : Str → Option Value}
theorem t_drawn {k : Nat} {tk : Tok} {vs : List Value} {ns : List Int} {starts : Array Value} {c : Option Value} (ok : Okay 2 A) (X : (KK w).In s.heap) (N : s.heap.Ns L m) (hsc : m "script" = some (.ref 75)) (hst : m "starts" = some (.ref (L + 2))) (hk : m "k" = some (.int (k : Nat) tk)) (hk5 : k < 5)
    (hl : s.heap.IsList 75 vs.toArray) (hi : IntsAre vs ns) (hn : ns.length ≤ 2 ^ 20) (sl : s.heap.IsList (L + 2) starts) (hs5 : ∀ k, k < 5 → ∃ a t, starts[k]? = some (.int a t)) (cl : s.heap.IsCell (L + 1) c)
    (hQ : ∀ s' d t, s'.heap.IsCell (L + 1) (some (.int d t)) → (∀ b o, b ≠ L + 1 → s.heap.get? b = some o → s'.heap.get? b = some o) → s'.heap.objs.size = s.heap.objs.size + 11 → s'.gens = s.gens → s'.drawn = s.drawn → s'.os = s.os → Q .next s') :
    wpAny (MM w) A (exec (stAt (forBody (stAt (bdAt w 43) 2)) 0) (TE w L)) Q E s := by
  have hvn : vs.length ≤ 2 ^ 20 := by rw [← hi.length] at hn; exact hn
  refine wpAny_Assign_Name ?_ (by kernel_rfl)
  refine wpAny_BinOp ?_
  refine Subscript_ ?_
  refine nm_local N hst ?_ (by kernel_rfl) (by kernel_rfl)
  refine nm_local N hk ?_ (by kernel_rfl) (by kernel_rfl)
  obtain ⟨a0, t0, e0⟩ := hs5 k hk5
  refine item_at (v := .int a0 t0) sl (by omega) (by omega) (by simpa using e0) ?_ (by kernel_rfl)
  refine Call_ ?_ (by kernel_rfl)
  refine nm_blt (w := w) X (v := .builtin "sum") (by kernel_rfl) (by kernel_rfl) ?_ (by kernel_rfl) (by kernel_rfl) (by kernel_rfl) (by kernel_rfl)
  refine callWith_builtin1 ?_ (by kernel_rfl) (by kernel_rfl)
  refine args_cons ?_ (by kernel_rfl)
  refine lc_z (x := "x") (cl := []) (fun _ => true) (fun _ y f => (∃ a t, y = .int a t ∧ 0 ≤ a ∧ a < 1000000) ∧ f = []) (some 0) (by kernel_rfl) (by kernel_rfl) (by kernel_rfl) (by kernel_rfl) (by kernel_rfl) ?_
  refine wpAny_Subscript_Slice_step (T := "list") list_getitem_lookup ?_
  refine nm_local N hsc ?_ (by kernel_rfl) (by kernel_rfl)
  refine wpAny_Slice ?_
  refine evalPart_some_step ?_
  refine nm_local N hk ?_ (by kernel_rfl) (by kernel_rfl)
  refine evalPart_some_step ?_
  refine wpAny_Constant_int ?_
  refine evalPart_some_step ?_
  refine wpAny_Constant_int ?_
  refine ⟨(hl.push _).typeIs, wpAny_getItem_list_slice (hl.push _) (Heap.IsSliceOf.new ..) (.int _ _) (.int _ _) (.int _ _) (by decide) ?_ (by rw [List.size_toArray, sizeLine_eq]; omega)⟩
  dsimp only
  generalize hH1 : s.heap.push { cls := .type "slice", data := .fields #[.int (k : Nat) tk, .int 63 s.toks, .int 5 (s.toks + 1)] } = H1
  have z1 : H1.objs.size = s.heap.objs.size + 1 := by rw [← hH1, Heap.size_push]
  have k1 : Kp s.heap H1 := fun b o e => hH1 ▸ Heap.get?_push_of_some _ e
  generalize hpk : slicePick vs.toArray (some (k : Int)) (some 63) (some 5) = pk
  have hp1 : pk.size ≤ 63 := by rw [← hpk]; exact pick_small _ _
  have hp2 : ∀ i v, pk[i]? = some v → ∃ a t, v = Value.int a t := fun i v e => by
    rw [← hpk] at e
    exact ints_mem hi (by simpa using pick_mem e)
  generalize hH2 : H1.push { cls := .type "list", data := .seq pk } = H2
  have z2 : H2.objs.size = s.heap.objs.size + 2 := by rw [← hH2, Heap.size_push, z1]
  have k2 : Kp s.heap H2 := fun b o e => hH2 ▸ Heap.get?_push_of_some _ (k1 _ _ e)
  have l2 : H2.IsList H1.objs.size pk := by rw [← hH2]; exact ⟨_, Heap.get?_push_size _ rfl, rfl, _, rfl⟩
  refine wpAny_pyIter_list l2 ?_
  dsimp only
  have hD : H1.objs.size < H2.objs.size := by rw [z1, z2]; exact Nat.lt_succ_self _
  refine ⟨_, _, pk.size, _, _, rfl, WalkZ.list ok.hd H2.objs.size H1.objs.size (Nat.ne_of_lt hD) pk, by omega, ⟨⟨_, Heap.get?_push_size _ rfl, rfl, rfl⟩, l2.push _⟩, ?_, ⟨?_, ?_⟩, ?_⟩
  · intro b hb
    simp only [List.mem_cons, List.not_mem_nil, or_false] at hb
    show b < (H2.push _).objs.size
    rw [Heap.size_push]
    rcases hb with rfl | rfl
    · exact Nat.lt_succ_self _
    · exact Nat.lt_succ_of_lt hD
  · intro C i v s6 m6 E6 _ _ _ _ _
    exact wpAny_tests_nil ⟨rfl, Nx.refl _, fun _ => rfl⟩
  · intro C i v s6 m6 E6 hC hP _ N6 hm6 k6
    obtain ⟨a, t, rfl⟩ := hp2 i v hP
    refine wpAny_BinOp ?_
    refine nm_local N6 hm6 ?_ (by kernel_rfl) (by kernel_rfl)
    refine wpAny_BinOp ?_
    refine wpAny_Constant_int ?_
    refine wpAny_Constant_int ?_
    refine pow_int_small (by decide) (by decide) (by decide) ?_
    refine PyProof.Rows.mod_int (by decide) ?_
    refine ⟨⟨[], ⟨⟨_, _, rfl, ?_, ?_⟩, rfl⟩, fun q hq => by cases hq⟩, ⟨Kp.refl _, rfl, rfl, rfl⟩, fun k e => by cases e; rfl⟩
    · exact Int.fmod_nonneg_of_pos _ (by decide)
    · exact Int.fmod_lt_of_pos _ (by decide)
  · intro s6 ys vs6 pl6 hlen6 hP6 hM6 k6 g6 d6 o6 z6
    have z6' := z6 0 rfl
    refine args_nil ?_
    have hall := made_all hM6
    have hsz : ys.size ≤ 63 := by
      have e1 := hM6.length
      rw [List.filter_eq_self.mpr (fun _ _ => rfl), hlen6, Array.length_toList] at e1
      omega
    refine sum_z ok.hd pl6.isList (fun i v e => hall v (by simpa using Array.mem_of_getElem? e)) (by omega) fun h7 tk7 t7 r r0 r1 k7 z7 => ?_
    refine P.add_int ?_
    have nI : ∀ b o, s.heap.get? b = some o → b ≠ H2.objs.size := fun b o e => Nat.ne_of_lt (Heap.lt_size (k2 b o e))
    have kk : Kp s.heap h7 := fun b o e => k7 _ _ (k6 b o (nI b o e) (Heap.get?_push_of_some _ (k2 b o e)))
    refine wpAny_storeName_cell (c := L + 1) (by kernel_rfl) (by kernel_rfl) (by kernel_rfl) (cl.keeps kk) fun h8 c8 sb8 => ?_
    refine hQ _ _ _ c8 (fun b o hb e => sb8.extBut b o hb (kk b o e)) ?_ g6 d6 o6
    show h8.objs.size = _
    rw [sb8.1]
    show h7.objs.size = _
    rw [z7, z6']
    show (H2.push _).objs.size + 4 + 0 * _ + 4 = _
    rw [Heap.size_push, z2]
    omega
end
end Mine

set_option maxRecDepth 100000
set_option maxHeartbeats 4000000
namespace Mine
open PySem.Calls Builtin

theorem joinE_cp : ∀ l : List Str, cp (Txt.join ⟨⟨[]⟩⟩ l) = (l.map cp).flatten
  | [] => rfl
  | [x] => by
    show cp (Builtin.Str.glued _ [x]) = _
    rw [StrLaws.glued_eq_join]; simp [Str.join]
  | x :: y :: r => by
    have ih := joinE_cp (y :: r)
    have e : ∀ l, Txt.join ⟨⟨[]⟩⟩ l = Str.join ⟨⟨[]⟩⟩ l := fun l => StrLaws.glued_eq_join _ l
    rw [e] at ih ⊢
    show cp (x ++ (⟨⟨[]⟩⟩ : Str) ++ Str.join ⟨⟨[]⟩⟩ (y :: r)) = _
    rw [cp_append, cp_append, ih]
    simp
def OneSg (y : Value) : Prop := ∃ c t, y = Value.str ⟨#[c]⟩ t ∧ c ∈ sg8
theorem ones_of : ∀ {ys : List Value}, (∀ y ∈ ys, OneSg y) → ∃ ws : List (Str × Tok), ys = strValues ws ∧ ∀ z ∈ ws, ∃ c, z.1 = ⟨#[c]⟩ ∧ c ∈ sg8
  | [], _ => ⟨[], rfl, fun z hz => by cases hz⟩
  | y :: ys, h => by
    obtain ⟨c, t, e, hc⟩ := h y List.mem_cons_self
    obtain ⟨ws, e2, h2⟩ := ones_of fun y hy => h y (List.mem_cons_of_mem _ hy)
    refine ⟨(⟨#[c]⟩, t) :: ws, by rw [e, e2]; rfl, fun z hz => ?_⟩
    rcases List.mem_cons.mp hz with rfl | hz
    · exact ⟨c, rfl, hc⟩
    · exact h2 z hz
theorem flat_ones : ∀ {ws : List (Str × Tok)}, (∀ z ∈ ws, ∃ c, z.1 = ⟨#[c]⟩ ∧ c ∈ sg8) → Sg8 ((ws.map (·.1)).map cp).flatten ∧ ((ws.map (·.1)).map cp).flatten.length = ws.length
  | [], _ => ⟨fun c hc => (by cases hc), rfl⟩
  | z :: ws, h => by
    obtain ⟨c, e, hc⟩ := h z List.mem_cons_self
    obtain ⟨i1, i2⟩ := flat_ones fun y hy => h y (List.mem_cons_of_mem _ hy)
    have e' : cp z.1 = [c] := by rw [e]
    refine ⟨fun d hd => ?_, ?_⟩
    · simp only [List.map_cons, List.flatten_cons, e', List.mem_append, List.mem_singleton] at hd
      rcases hd with rfl | hd
      · exact hc
      · exact i1 d hd
    · simp only [List.map_cons, List.flatten_cons, e', List.length_append, i2, List.length_cons, List.length_nil]; omega
theorem sg_pick : ∀ j : Nat, j < 8 → ∃ c, (seqIndex? (j : Int) 8).bind ((⟨⟨[97, 65, 98, 66, 32, 9, 45, 67]⟩⟩ : Str).cps[·]?) = some c ∧ c ∈ sg8 := by
  intro j hj
  match j, hj with
  | 0, _ => exact ⟨97, by rfl, by decide⟩
  | 1, _ => exact ⟨65, by rfl, by decide⟩
  | 2, _ => exact ⟨98, by rfl, by decide⟩
  | 3, _ => exact ⟨66, by rfl, by decide⟩
  | 4, _ => exact ⟨32, by rfl, by decide⟩
  | 5, _ => exact ⟨9, by rfl, by decide⟩
  | 6, _ => exact ⟨45, by rfl, by decide⟩
  | 7, _ => exact ⟨67, by rfl, by decide⟩
section
variable {w : World} {A : Around} {E : Value → Shared → Prop} {Q : Flow → Shared → Prop} {s : Shared} {L : Addr} {m : Str → Option Value}
theorem t_title {d : Int} {td : Tok} {zs : List (Str × Tok)} (ok : Okay 2 A) (X : (KK w).In s.heap) (N : s.heap.Ns L m) (htl : m "titles" = some (.ref (L + 3))) (cl : s.heap.IsCell (L + 1) (some (.int d td))) (pl : s.heap.PlainList (L + 3) (strValues zs).toArray) (hz : zs.length ≤ 1000)
    (hQ : ∀ s' (t : Str) (u : Tok), Sg8 (cp t) → t.length = 6 → s'.heap.PlainList (L + 3) (strValues (zs ++ [(t, u)])).toArray → (∀ b o, b ≠ L + 3 → s.heap.get? b = some o → s'.heap.get? b = some o) → s'.heap.objs.size = s.heap.objs.size + 6 → s'.gens = s.gens → s'.drawn = s.drawn → s'.os = s.os → Q .next s') :
    wpAny (MM w) A (exec (stAt (forBody (stAt (bdAt w 43) 2)) 1) (TE w L)) Q E s := by
  refine wpAny_Expr ?_ (by kernel_rfl) (by kernel_rfl)
  with_reducible refine Call_method1 (by kernel_rfl) (by kernel_rfl) (by kernel_rfl) ?_
  refine nm_local N htl ?_ (by kernel_rfl) (by kernel_rfl)
  refine ⟨"list", "list.append", F.plainAttrs_list, F.slot_list_append, F.type_list_append, pl.isList.typeIs, fun a e => by cases e; obtain ⟨n, e⟩ := pl; exact ⟨_, e, rfl⟩, ?_⟩
  with_reducible refine cwb1 ?_
  with_reducible refine Call_method1 (by kernel_rfl) (by kernel_rfl) (by kernel_rfl) ?_
  refine wpAny_Constant_str ?_
  refine ⟨"str", "str.join", F.plainAttrs_str, F.slot_str_join, F.type_str_join, typeIs_str _ _ _, nref, ?_⟩
  with_reducible refine cwb1 ?_
  refine lc_z (x := "i") (cl := [("drawn", L + 1)]) (fun _ => true) (fun _ y f => OneSg y ∧ f = []) (some 0) (by kernel_rfl) (by kernel_rfl) (by kernel_rfl) (by kernel_rfl) (by kernel_rfl) ?_
  refine range_iter (n := 6) X (by kernel_rfl) (by kernel_rfl) (by kernel_rfl) (by kernel_rfl) (by kernel_rfl) (by kernel_rfl) fun h1 tk1 z1 k1 ri1 => ?_
  have nI : ∀ b o, s.heap.get? b = some o → b ≠ s.heap.objs.size + 1 := fun b o e => Nat.ne_of_lt (Nat.lt_succ_of_lt (Heap.lt_size e))
  refine ⟨_, _, 6, _, _, rfl, WalkZ.range ok.hd (s.heap.objs.size + 1) 6, by decide, ri1, ?_, ⟨?_, ?_⟩, ?_⟩
  · intro b hb
    rw [List.mem_singleton] at hb
    show b < h1.objs.size
    rw [hb, z1]; exact Nat.lt_succ_self _
  · intro C i v s6 m6 E6 _ _ _ _ _
    exact wpAny_tests_nil ⟨rfl, Nx.refl _, fun _ => rfl⟩
  · rintro C i v s6 m6 E6 hC ⟨hi, ti, rfl⟩ _ N6 hm6 k6
    have k6' : Kp s.heap s6.heap := fun b o e => k6 b o (nI b o e) (k1 _ _ e)
    refine Subscript_ ?_
    refine wpAny_Constant_str ?_
    refine wpAny_BinOp ?_
    refine wpAny_BinOp ?_
    refine wpAny_Name (wpAny_loadName_cell (c := L + 1) (by kernel_rfl) (by kernel_rfl) (by kernel_rfl) (cl.keeps k6') ?_)
    refine wpAny_BinOp ?_
    refine wpAny_Constant_int ?_
    refine nm_local N6 hm6 ?_ (by kernel_rfl) (by kernel_rfl)
    refine pow_int_small (by omega) (by omega) (by decide) ?_
    have h8 : ((8 : Int) ^ ((i : Nat) : Int).toNat) ≠ 0 ∧ ((8 : Int) ^ ((i : Nat) : Int).toNat).natAbs < 1073741824 := by
      rw [Int.toNat_natCast]
      match i, hi with
      | 0, _ => decide
      | 1, _ => decide
      | 2, _ => decide
      | 3, _ => decide
      | 4, _ => decide
      | 5, _ => decide
    refine floordiv_int h8.1 ?_ (.inl (PyProof.noPylong_small h8.2))
    refine wpAny_Constant_int ?_
    refine PyProof.Rows.mod_int (by decide) ?_
    have j0 := Int.fmod_nonneg_of_pos (d.fdiv ((8 : Int) ^ ((i : Nat) : Int).toNat)) (b := 8) (by decide)
    have j1 := Int.fmod_lt_of_pos (d.fdiv ((8 : Int) ^ ((i : Nat) : Int).toNat)) (b := 8) (by decide)
    generalize (d.fdiv ((8 : Int) ^ ((i : Nat) : Int).toNat)).fmod 8 = j at j0 j1 ⊢
    obtain ⟨j', rfl⟩ := Int.eq_ofNat_of_zero_le j0
    obtain ⟨c, hc, hc8⟩ := sg_pick j' (by omega)
    refine tail_any (typeIs_str _ _ _) F.slot_str_getitem.lookup (P.getItem_str (c := c) ?_ hc ?_) (by with_unfolding_all rfl)
    · rw [Bool.or_eq_false_iff, decide_eq_false_iff_not, decide_eq_false_iff_not]; omega
    · exact ⟨⟨[], ⟨⟨c, _, rfl, hc8⟩, rfl⟩, fun q hq => by cases hq⟩, ⟨Kp.refl _, rfl, rfl, rfl⟩, fun k e => by cases e; rfl⟩
  · intro s6 ys vs6 pl6 hlen6 hP6 hM6 k6 g6 d6 o6 z6
    have z6' := z6 0 rfl
    obtain ⟨ws, e, hws⟩ := ones_of (made_all hM6)
    have hys : ys = (strValues ws).toArray := Array.toList_inj.mp e
    have hwl : ws.length = 6 := by
      have e1 := hM6.length
      rw [List.filter_eq_self.mpr (fun _ _ => rfl), hlen6, e, strV_len] at e1
      exact e1
    obtain ⟨q1, q2⟩ := flat_ones hws
    rw [hys] at pl6
    refine spliced_nil ?_
    refine SC.join pl6.isList rfl ?_ fun t7 k7 => ?_
    · unfold JoinOk
      rw [StrLaws.joinFits (B := 1)]
      · rfl
      · intro y hy
        obtain ⟨z, hz, rfl⟩ := List.mem_map.mp hy
        obtain ⟨c, e, _⟩ := hws z hz
        rw [e]; exact Nat.le_refl _
      · rw [List.length_map, hwl]; decide
    · refine spliced_nil ?_
      have kk : Kp s.heap s6.heap := fun b o e => k6 b o (nI b o e) (k1 _ _ e)
      refine wpAny_list_append_plain (pl_kp pl kk) (fun h8 pl8 sb8 => ?_) (by rw [List.size_toArray, strV_len, sizeLine_eq]; omega)
      have hcp := joinE_cp (ws.map (·.1))
      refine hQ _ (Txt.join ⟨⟨[]⟩⟩ (ws.map (·.1))) t7 (by rw [hcp]; exact q1) ?_ ?_ (fun b o hb e => sb8.extBut b o hb (kk b o e)) ?_ g6 d6 o6
      · have : (Txt.join ⟨⟨[]⟩⟩ (ws.map (·.1))).length = (cp (Txt.join ⟨⟨[]⟩⟩ (ws.map (·.1)))).length := by rw [Array.length_toList]; rfl
        rw [this, hcp, q2, hwl]
      · have e : (strValues (zs ++ [(Txt.join ⟨⟨[]⟩⟩ (ws.map (·.1)), t7)])).toArray = (strValues zs).toArray.push (.str (Txt.join ⟨⟨[]⟩⟩ (ws.map (·.1))) t7) := by simp [strValues]
        rw [e]; exact pl8
      · show h8.objs.size = _
        rw [sb8.1]
        show s6.heap.objs.size = _
        rw [z6']
        show h1.objs.size + 4 + 0 * _ = _
        have z1' : h1.objs.size = s.heap.objs.size + 2 := z1
        rw [z1']; omega
end
end Mine

set_option maxRecDepth 100000
set_option maxHeartbeats 4000000
namespace Mine
open PySem.Calls Builtin

structure TSt (s₀ : Shared) (L : Addr) (starts : Array Value) (i : Nat) (s : Shared) : Prop where
  ns : ∃ m, s.heap.Ns L m ∧ m "script" = some (.ref 75) ∧ m "starts" = some (.ref (L + 2)) ∧ m "titles" = some (.ref (L + 3))
  cl : ∃ c, s.heap.IsCell (L + 1) c
  sl : s.heap.IsList (L + 2) starts
  tl : ∃ zs : List (Str × Tok), s.heap.PlainList (L + 3) (strValues zs).toArray ∧ zs.length = i ∧ ∀ z ∈ zs, Sg8 (cp z.1) ∧ z.1.length = 6
  it : IsRangeIter s.heap (L + 5) ((i : Nat) : Int) ((5 : Int) - ((i : Nat) : Int)) 1
  sz : s.heap.objs.size = L + 6 + 17 * i
  kp : Kp s₀.heap s.heap
  gens : s.gens = s₀.gens
  dr : s.drawn = s₀.drawn
  os : s.os = s₀.os
theorem ne_add (L : Addr) {i j : Nat} (h : i ≠ j) : L + i ≠ L + j := fun e => h (Nat.add_left_cancel e)
theorem ne_add0 (L : Addr) {j : Nat} (h : 0 ≠ j) : L ≠ L + j := fun e => h (Nat.add_left_cancel (n := L) (by rw [Nat.add_zero]; exact e))
theorem titles_loop {w : World} {A : Around} {R : Result → Shared → Prop} {s₀ s : Shared} {L : Addr} (hL : L = s₀.heap.objs.size) (ok : Okay 2 A) (X : (KK w).In s₀.heap) {vs : List Value} {ns : List Int} {starts : Array Value}
    (hl : s₀.heap.IsList 75 vs.toArray) (hi : IntsAre vs ns) (hn : ns.length ≤ 2 ^ 20) (hs5 : ∀ k, k < 5 → ∃ a t, starts[k]? = some (.int a t)) (st : TSt s₀ L starts 0 s)
    (hR : ∀ s' m, s'.heap.Ns L m → m "titles" = some (.ref (L + 3)) → (∃ zs : List (Str × Tok), s'.heap.PlainList (L + 3) (strValues zs).toArray ∧ zs.length = 5 ∧ ∀ z ∈ zs, Sg8 (cp z.1) ∧ z.1.length = 6) →
      s'.heap.objs.size = L + 93 → Nx s₀ s' → R (.ok .next) s') :
    codeAny (MM w) A (.forLoop (forTgt (stAt (bdAt w 43) 2)) (.ref (L + 5)) (forBody (stAt (bdAt w 43) 2)) [] (TE w L)) R s := by
  have lo : ∀ b o, s₀.heap.get? b = some o → ∀ j, b ≠ L + j := fun b o e j => by
    have := Heap.lt_size e; rw [← hL] at this; exact Nat.ne_of_lt (Nat.lt_of_lt_of_le this (Nat.le_add_right _ _))
  have W := WalkZ.range (w := w) (A := A) ok.hd (L + 5) 5
  refine codeAny_forLoop (fun n s' => ∃ i, n = 6 - i ∧ i ≤ 5 ∧ TSt s₀ L starts i s') ?_ 6 ⟨0, rfl, Nat.zero_le _, st⟩ (by intro _; kernel_rfl)
  rintro _ s1 ⟨i, rfl, hi5, st1⟩
  obtain ⟨⟨m1, N1, e1, e2, e3⟩, ⟨c1, cl1⟩, sl1, ⟨zs, pl1, hz1, hzs⟩, it1, sz1, kp1, g1, d1, o1⟩ := st1
  by_cases hlt : i < 5
  · refine W.item i s1 _ _ hlt it1 fun v h2 tk2 hPv it2 sb2 => ?_
    obtain ⟨_, ti, rfl⟩ := hPv
    refine wpAny_assign_Name (wpAny_storeName_local (by kernel_rfl) (N1.sameBut sb2 (ne_add0 L (by decide))) (fun h3 N3 sb3 => ?_) (by kernel_rfl))
    have up : ∀ b o, b ≠ L → b ≠ L + 5 → s1.heap.get? b = some o → h3.get? b = some o := fun b o q1 q2 e => sb3.extBut b o q1 (sb2.extBut b o q2 e)
    have nL : ∀ j, 0 ≠ j → L + j ≠ L := fun j hj => Ne.symm (ne_add0 L hj)
    have kp3 : Kp s₀.heap h3 := fun b o e => up b o (lo b o e 0) (lo b o e 5) (kp1 b o e)
    have cl3 : h3.IsCell (L + 1) c1 := let ⟨o, q, r⟩ := cl1; ⟨o, up _ _ (nL 1 (by decide)) (ne_add L (by decide)) q, r⟩
    have sl3 : h3.IsList (L + 2) starts := sl1.at fun o q => up _ _ (nL 2 (by decide)) (ne_add L (by decide)) q
    have pl3 : h3.PlainList (L + 3) (strValues zs).toArray := pl1.at fun o q => up _ _ (nL 3 (by decide)) (ne_add L (by decide)) q
    have it3 : IsRangeIter h3 (L + 5) ((i + 1 : Nat) : Int) ((5 : Int) - ((i + 1 : Nat) : Int)) 1 := sb3.extBut _ _ (nL 5 (by decide)) it2
    have z3 : h3.objs.size = L + 6 + 17 * i := by rw [sb3.1, sb2.1, sz1]
    refine wpAny_execs_cons ?_
    refine t_drawn (k := i) (tk := ti) ok (X.keeps kp3) N3 (by rw [if_neg (by decide)]; exact e1) (by rw [if_neg (by decide)]; exact e2) (by rw [if_pos (by decide)]) hlt (list_kp hl kp3) hi hn sl3 hs5 cl3 fun s4 d4 t4 cl4 k4 z4 g4 dr4 o4 => ?_
    have N4 := N3.at' fun o e => k4 _ _ (ne_add0 L (by decide)) e
    have kp4 : Kp s₀.heap s4.heap := fun b o e => k4 b o (lo b o e 1) (kp3 b o e)
    have sl4 : s4.heap.IsList (L + 2) starts := sl3.at fun o q => k4 _ _ (ne_add L (by decide)) q
    have pl4 : s4.heap.PlainList (L + 3) (strValues zs).toArray := pl3.at fun o q => k4 _ _ (ne_add L (by decide)) q
    have it4 : IsRangeIter s4.heap (L + 5) ((i + 1 : Nat) : Int) ((5 : Int) - ((i + 1 : Nat) : Int)) 1 := k4 _ _ (ne_add L (by decide)) it3
    have z4' : s4.heap.objs.size = L + 6 + 17 * i + 11 := by rw [z4]; show h3.objs.size + 11 = _; rw [z3]
    refine wpAny_execs_cons ?_
    refine t_title ok (X.keeps kp4) N4 (by rw [if_neg (by decide)]; exact e3) cl4 pl4 (by omega) fun s5 t u ht6 hl6 pl5 k5 z5 g5 dr5 o5 => ?_
    refine wpAny_execs_nil ?_
    refine ⟨6 - (i + 1), by omega, i + 1, rfl, hlt, ⟨⟨_, N4.at' fun o e => k5 _ _ (ne_add0 L (by decide)) e, by rw [if_neg (by decide)]; exact e1, by rw [if_neg (by decide)]; exact e2, by rw [if_neg (by decide)]; exact e3⟩, ?_, sl4.at fun o q => k5 _ _ (ne_add L (by decide)) q, ⟨zs ++ [(t, u)], pl5, by simp [hz1], ?_⟩, k5 _ _ (ne_add L (by decide)) it4, ?_, fun b o e => k5 b o (lo b o e 3) (kp4 b o e), ?_, ?_, ?_⟩⟩
    · obtain ⟨o, q, r⟩ := cl4
      exact ⟨_, o, k5 _ _ (ne_add L (by decide)) q, r⟩
    · intro z hz
      rcases List.mem_append.mp hz with hz | hz
      · exact hzs z hz
      · rw [List.mem_singleton] at hz; subst hz; exact ⟨ht6, hl6⟩
    · rw [z5, z4']; omega
    · exact g5.trans (g4.trans g1)
    · exact dr5.trans (dr4.trans d1)
    · exact o5.trans (o4.trans o1)
  · have hin : i = 5 := by omega
    subst hin
    refine W.done s1 _ _ it1 fun h2 eb2 z2 => ?_
    refine wpAny_execs_nil ?_
    exact hR _ m1 (N1.extBut eb2 (ne_add0 L (by decide))) e3 ⟨zs, pl1.at fun o q => eb2 _ _ (ne_add L (by decide)) q, hz1, hzs⟩ (by show h2.objs.size = _; rw [z2, sz1]) ⟨fun b o e => eb2 b o (lo b o e 5) (kp1 b o e), g1, d1, o1⟩

theorem titles_c {w : World} {A : Around} {s : Shared} {Q E : Value → Shared → Prop} (ok : Okay 3 A) (X : (KK w).In s.heap) {vs : List Value} {ns : List Int} (hl : s.heap.IsList 75 vs.toArray) (hi : IntsAre vs ns) (hn : ns.length ≤ 2 ^ 20)
    (hQ : ∀ s' (zs : List (Str × Tok)), Nx s s' → s'.heap.PlainList (s.heap.objs.size + 3) (strValues zs).toArray → zs.length = 5 → (∀ z ∈ zs, Sg8 (cp z.1) ∧ z.1.length = 6) → s'.heap.objs.size = s.heap.objs.size + 93 → Q (.ref (s.heap.objs.size + 3)) s') :
    wpAny (MM w) A (call (.ref 43) [.ref 75]) Q E s := by
  refine wpAny_call ?_
  refine enterZ (fdAt w 43) (bdAt w 43) "script" (.ref 75) ok.room X (by kernel_rfl) (by kernel_rfl) (by kernel_rfl) (by kernel_rfl) (by kernel_rfl) (by kernel_rfl) (by kernel_rfl) (by kernel_rfl) (by kernel_rfl) (by kernel_rfl) ?_
  intro h0 tk0 N0 sb0
  rw [show pushCells (s.heap.push { cls := .type "frame", data := .dict #[] }) (fdAt w 43).scope.names = (s.heap.push { cls := .type "frame", data := .dict #[] }).push { cls := .type "cell", data := .cell none } from by kernel_rfl] at sb0
  generalize hL : s.heap.objs.size = L at *
  have ok1 := ok.deeper (callEnvC (fdAt w 43) L 43)
  have lo : ∀ b o, s.heap.get? b = some o → ∀ j, b ≠ L + j := fun b o e j => by
    have := Heap.lt_size e; rw [hL] at this; exact Nat.ne_of_lt (Nat.lt_of_lt_of_le this (Nat.le_add_right _ _))
  have nL : ∀ j, 0 ≠ j → L + j ≠ L := fun j hj => Ne.symm (ne_add0 L hj)
  have k0 : Kp s.heap h0 := fun b o e => sb0.extBut b o (lo b o e 0) (Heap.get?_push_of_some _ (Heap.get?_push_of_some _ e))
  have z0 : h0.objs.size = L + 2 := by rw [sb0.1, Heap.size_push, Heap.size_push, hL]
  have c0 : h0.IsCell (L + 1) none := by
    have := Heap.get?_push_size (s.heap.push { cls := .type "frame", data := .dict #[] }) (o := { cls := .type "cell", data := .cell none }) rfl
    rw [Heap.size_push, hL] at this
    exact ⟨_, sb0.extBut _ _ (nL 1 (by decide)) this, rfl⟩
  refine wpAny_execs_cons ?_
  refine wpAny_Assign_Name ?_ (by kernel_rfl)
  refine wpAny_List ?_
  refine args_cons ?_ (by kernel_rfl)
  refine wpAny_Constant_int ?_
  refine args_cons ?_ (by kernel_rfl)
  refine wpAny_Constant_int ?_
  refine args_cons ?_ (by kernel_rfl)
  refine wpAny_Constant_int ?_
  refine args_cons ?_ (by kernel_rfl)
  refine wpAny_Constant_int ?_
  refine args_cons ?_ (by kernel_rfl)
  refine wpAny_Constant_int ?_
  refine args_nil ?_
  refine ⟨(by show 5 ≤ 16777216; decide), ?_⟩
  dsimp only
  rw [z0]
  generalize hst : (List.toArray [Value.int 148760 tk0, Value.int 145681 (tk0 + 1), Value.int 151440 (tk0 + 1 + 1), Value.int 182540 (tk0 + 1 + 1 + 1), Value.int 161113 (tk0 + 1 + 1 + 1 + 1)]) = starts
  have hs5 : ∀ k, k < 5 → ∃ a t, starts[k]? = some (.int a t) := by
    subst hst
    intro k hk
    match k, hk with
    | 0, _ => exact ⟨_, _, rfl⟩
    | 1, _ => exact ⟨_, _, rfl⟩
    | 2, _ => exact ⟨_, _, rfl⟩
    | 3, _ => exact ⟨_, _, rfl⟩
    | 4, _ => exact ⟨_, _, rfl⟩
  generalize hH1 : h0.push { cls := .type "list", data := .seq starts } = H1
  have z1 : H1.objs.size = L + 3 := by rw [← hH1, Heap.size_push, z0]
  have k1 : Kp h0 H1 := fun b o e => hH1 ▸ Heap.get?_push_of_some _ e
  have sl1 : H1.IsList (L + 2) starts := by rw [← z0, ← hH1]; exact ⟨_, Heap.get?_push_size _ rfl, rfl, _, rfl⟩
  refine wpAny_storeName_local (by kernel_rfl) (N0.keeps k1) (fun h2 N2 sb2 => ?_) (by kernel_rfl)
  have z2 : h2.objs.size = L + 3 := by rw [sb2.1, z1]
  have kp2 : Kp s.heap h2 := fun b o e => sb2.extBut b o (lo b o e 0) (k1 b o (k0 b o e))
  have sl2 : h2.IsList (L + 2) starts := sl1.at fun o e => sb2.extBut _ _ (nL 2 (by decide)) e
  have c2 : h2.IsCell (L + 1) none := let ⟨o, q, r⟩ := c0; ⟨o, sb2.extBut _ _ (nL 1 (by decide)) (k1 _ _ q), r⟩
  refine wpAny_execs_cons ?_
  refine wpAny_Assign_Name ?_ (by kernel_rfl)
  refine wpAny_List ?_
  refine args_nil ?_
  refine ⟨Nat.zero_le _, ?_⟩
  dsimp only
  rw [z2]
  generalize hH3 : h2.push { cls := .type "list", data := .seq ([] : List Value).toArray } = H3
  have z3 : H3.objs.size = L + 4 := by rw [← hH3, Heap.size_push, z2]
  have k3 : Kp h2 H3 := fun b o e => hH3 ▸ Heap.get?_push_of_some _ e
  have pl3 : H3.PlainList (L + 3) (strValues []).toArray := by rw [← z2, ← hH3]; exact ⟨_, Heap.get?_push_size _ rfl⟩
  refine wpAny_storeName_local (by kernel_rfl) (N2.keeps k3) (fun h4 N4 sb4 => ?_) (by kernel_rfl)
  have z4 : h4.objs.size = L + 4 := by rw [sb4.1, z3]
  have kp4 : Kp s.heap h4 := fun b o e => sb4.extBut b o (lo b o e 0) (k3 b o (kp2 b o e))
  have sl4 : h4.IsList (L + 2) starts := sl2.at fun o e => sb4.extBut _ _ (nL 2 (by decide)) (k3 _ _ e)
  have c4 : h4.IsCell (L + 1) none := let ⟨o, q, r⟩ := c2; ⟨o, sb4.extBut _ _ (nL 1 (by decide)) (k3 _ _ q), r⟩
  have pl4 : h4.PlainList (L + 3) (strValues []).toArray := pl3.at fun o e => sb4.extBut _ _ (nL 3 (by decide)) e
  refine wpAny_execs_cons ?_
  refine wpAny_For ?_ (by intro _; kernel_rfl)
  refine range_iter (n := 5) (X.keeps kp4) (by kernel_rfl) (by kernel_rfl) (by kernel_rfl) (by kernel_rfl) (by kernel_rfl) (by kernel_rfl) fun h5 tk5 z5 k5 ri5 => ?_
  have z5' : h5.objs.size = L + 6 := by rw [z5]; show h4.objs.size + 2 = _; rw [z4]
  have e5 : h4.objs.size + 1 = L + 5 := by rw [z4]
  have ri5' : IsRangeIter h5 (h4.objs.size + 1) ((0 : Nat) : Int) ((5 : Int) - ((0 : Nat) : Int)) 1 := ri5
  rw [e5] at ri5'
  show codeAny _ _ (.forLoop _ (.ref (h4.objs.size + 1)) _ _ _) _ _
  rw [e5]
  refine titles_loop (s₀ := s) (L := L) hL.symm ok1 X hl hi hn hs5 ⟨⟨_, N4.keeps k5, ?_, ?_, ?_⟩, ⟨none, c4.keeps k5⟩, list_kp sl4 k5, ⟨[], pl_kp pl4 k5, rfl, by simp⟩, ri5', z5', kp4.trans k5, rfl, rfl, rfl⟩ ?_
  · rw [if_neg (by decide), if_neg (by decide), if_pos (by decide)]
  · rw [if_neg (by decide), if_pos (by decide)]
  · rw [if_pos (by decide)]
  intro s6 m6 N6 e6 ⟨zs, pl6, hz6, hzs⟩ z6 nx6
  refine wpAny_execs_cons (wpAny_Return_some ?_)
  refine nm_local N6 e6 ?_ (by kernel_rfl) (by kernel_rfl)
  exact hQ s6 zs nx6 pl6 hz6 hzs z6
end Mine

set_option maxRecDepth 100000
set_option maxHeartbeats 4000000
namespace Mine
open PySem.Calls Builtin

/-! ## the law's first four statements -/
section
variable {w : World} {A : Around} {s : Shared} {E : Value → Shared → Prop} {Q : Flow → Shared → Prop} {m : Str → Option Value}
theorem l0 {vs : List Value} {ns : List Int} {c : Option Value} (ok : Okay 20 A) (X : (KK w).In s.heap) (N : s.heap.Ns 76 m) (hm : m "script" = some (.ref 75)) (hl : s.heap.IsList 75 vs.toArray) (hi : IntsAre vs ns) (hn : ns.length ≤ 2 ^ 20) (cl : s.heap.IsCell 77 c) (sz : s.heap.objs.size = 83)
    (hQ : ∀ s' (zs : List (Str × Tok)), s'.heap.IsCell 77 (some (.ref 86)) → s'.heap.PlainList 86 (strValues zs).toArray → zs.length = 5 → (∀ z ∈ zs, Sg8 (cp z.1) ∧ z.1.length = 6) → (∀ b o, b ≠ 77 → s.heap.get? b = some o → s'.heap.get? b = some o) → s'.heap.objs.size = 176 → s'.gens = s.gens → s'.drawn = s.drawn → s'.os = s.os → wpAny (MM w) A (execs (lawB.drop 1) (LE w)) Q E s') :
    wpAny (MM w) A (execs lawB (LE w)) Q E s := by
  show wpAny (MM w) A (execs (lawB.drop 0) (LE w)) Q E s
  with_reducible refine law_cons (n := 0) (n' := 1) ?_ (by kernel_rfl)
  refine wpAny_Assign_Name ?_ (by kernel_rfl)
  refine Call_ ?_ (by kernel_rfl)
  refine nm_glob (w := w) X (v := .ref 43) (by kernel_rfl) ?_ (by kernel_rfl) (by kernel_rfl) (by kernel_rfl)
  with_reducible refine callWith_def (o := ob w 43) (fd := fdAt w 43) (by kernel_rfl) ?_ (by kernel_rfl)
  refine args_cons ?_ (by kernel_rfl)
  refine nm_local N hm ?_ (by kernel_rfl) (by kernel_rfl)
  refine args_nil ?_
  refine ⟨ob_at X 43 (by kernel_rfl), ?_⟩
  refine titles_c (ok.le (by decide)) X hl hi hn fun s1 zs nx1 pl1 hz hzs z1 => ?_
  rw [sz] at pl1 z1 ⊢
  refine wpAny_storeName_cell (c := 77) (by kernel_rfl) (by kernel_rfl) (by kernel_rfl) (cl.keeps nx1.kp) fun h2 c2 sb2 => ?_
  have pz := pl1.at fun o e => sb2.extBut _ _ (by decide) e
  have kz : ∀ b o, b ≠ 77 → s.heap.get? b = some o → h2.get? b = some o := fun b o hb e => sb2.extBut _ _ hb (nx1.kp _ _ e)
  have zz : h2.objs.size = 176 := by rw [sb2.1, z1]
  with_reducible exact hQ _ zs c2 pz hz hzs kz zz nx1.gens nx1.dr nx1.os
theorem l1 {zs : List (Str × Tok)} {c : Option Value} (ok : Okay 20 A) (X : (KK w).In s.heap) (c77 : s.heap.IsCell 77 (some (.ref 86))) (pl : s.heap.PlainList 86 (strValues zs).toArray) (hz : zs.length = 5) (hzs : ∀ z ∈ zs, Sg8 (cp z.1) ∧ z.1.length = 6) (cl : s.heap.IsCell 78 c) (sz : s.heap.objs.size = 176)
    (hQ : ∀ s' (ys : Array Value), s'.heap.IsCell 78 (some (.ref 177)) → s'.heap.PlainList 177 ys → ys.size = 5 → (∀ (k : Nat) (z : Str × Tok), zs[k]? = some z → ∃ t, ys[k]? = some (.str (capw z.1) t)) → (∀ b o, b ≠ 78 → s.heap.get? b = some o → s'.heap.get? b = some o) → s'.heap.objs.size = 231 → s'.gens = s.gens → s'.drawn = s.drawn → s'.os = s.os → wpAny (MM w) A (execs (lawB.drop 2) (LE w)) Q E s') :
    wpAny (MM w) A (execs (lawB.drop 1) (LE w)) Q E s := by
  with_reducible refine law_cons (n := 1) (n' := 2) ?_ (by kernel_rfl)
  refine wpAny_Assign_Name ?_ (by kernel_rfl)
  refine lc_z (x := "title") (cl := []) (fun _ => true) (fun v y f => (∀ t u, v = .str t u → ∃ u', y = .str (capw t) u') ∧ f = []) (some 10) (by kernel_rfl) (by kernel_rfl) (by kernel_rfl) (by kernel_rfl) (by kernel_rfl) ?_
  refine wpAny_Name (wpAny_loadName_cell (c := 77) (by kernel_rfl) (by kernel_rfl) (by kernel_rfl) c77 ?_)
  refine wpAny_pyIter_list pl.isList ?_
  have nI : ∀ b o, s.heap.get? b = some o → b ≠ s.heap.objs.size := fun b o e => Nat.ne_of_lt (Heap.lt_size e)
  have hne : 86 ≠ s.heap.objs.size := by obtain ⟨n, e⟩ := pl; exact nI _ _ e
  have hsz : (strValues zs).toArray.size = 5 := by rw [List.size_toArray, strV_len, hz]
  refine ⟨_, _, (strValues zs).toArray.size, _, _, rfl, WalkZ.list ok.hd s.heap.objs.size 86 hne (strValues zs).toArray, by omega, ⟨⟨_, Heap.get?_push_size _ rfl, rfl, rfl⟩, pl.isList.push _⟩, ?_, ⟨?_, ?_⟩, ?_⟩
  · intro b hb
    simp only [List.mem_cons, List.not_mem_nil, or_false] at hb
    show b < (s.heap.push _).objs.size
    rw [Heap.size_push]
    rcases hb with rfl | rfl
    · exact Nat.lt_succ_self _
    · obtain ⟨n, e⟩ := pl; exact Nat.lt_succ_of_lt (Heap.lt_size e)
  · intro C i v s6 m6 E6 _ _ _ _ _
    exact wpAny_tests_nil ⟨rfl, Nx.refl _, fun _ => rfl⟩
  · intro C i v s6 m6 E6 hC hP _ N6 hm6 k6
    have k6' : Kp s.heap s6.heap := fun b o e => k6 b o (nI b o e) (Heap.get?_push_of_some _ e)
    have hi : i < zs.length := by have := (Array.getElem?_eq_some_iff.mp hP).1; rw [hsz] at this; omega
    have hv : v = .str zs[i].1 zs[i].2 := by
      simp [strValues, hi] at hP
      exact hP.symm
    subst hv
    obtain ⟨h1, h2⟩ := hzs zs[i] (List.getElem_mem hi)
    refine Call_ ?_ (by kernel_rfl)
    refine nm_glob (w := w) (X.keeps k6') (v := .ref 48) (by kernel_rfl) ?_ (by kernel_rfl) (by kernel_rfl) (by kernel_rfl)
    refine callWith_def (o := ob w 48) (fd := fdAt w 48) (by kernel_rfl) ?_ (by kernel_rfl)
    refine args_cons ?_ (by kernel_rfl)
    refine nm_local N6 hm6 ?_ (by kernel_rfl) (by kernel_rfl)
    refine args_nil ?_
    refine ⟨ob_at (X.keeps k6') 48 (by kernel_rfl), ?_⟩
    refine words_c (ok.le (by decide)) (X.keeps k6') h1 (by omega) fun tk' s7 nx7 z7 => ?_
    exact ⟨⟨[], ⟨fun t u e => by cases e; exact ⟨_, rfl⟩, rfl⟩, fun q hq => by cases hq⟩, nx7, fun k e => by cases e; exact z7⟩
  · intro s6 ys vs6 pl6 hlen6 hP6 hM6 k6 g6 d6 o6 z6
    have z6' := z6 10 rfl
    have e1 : vs6 = strValues zs := by have := vs_items hlen6 hP6; simpa using this
    subst e1
    rw [List.filter_eq_self.mpr (fun _ _ => rfl)] at hM6
    have hy5 : ys.size = 5 := by
      have e1 := hM6.length
      rw [Array.length_toList, strV_len, hz] at e1
      exact e1
    have sz2 : (s.heap.push { cls := .type "list_iterator", data := .fields #[.ref 86, .int 0 0] }).objs.size = 177 := by rw [Heap.size_push, sz]
    have kk : Kp s.heap s6.heap := fun b o e => k6 b o (nI b o e) (Heap.get?_push_of_some _ e)
    dsimp only at pl6 z6' ⊢
    rw [sz2] at pl6 z6' ⊢
    refine wpAny_storeName_cell (c := 78) (by kernel_rfl) (by kernel_rfl) (by kernel_rfl) (cl.keeps kk) fun h7 c7 sb7 => ?_
    have pz := pl6.at fun o e => sb7.extBut _ _ (by decide) e
    have kz : ∀ b o, b ≠ 78 → s.heap.get? b = some o → h7.get? b = some o := fun b o hb e => sb7.extBut _ _ hb (kk _ _ e)
    with_reducible refine hQ _ ys c7 pz hy5 (fun k z hk => ?_) kz ?_ g6 d6 o6
    · have hk5 : k < 5 := by have := (List.getElem?_eq_some_iff.mp hk).1; omega
      obtain ⟨f, hf, _⟩ := made_get hM6 k (.str z.1 z.2) ys[k] (by simp [strValues, hk]) (by rw [Array.getElem?_toList]; exact Array.getElem?_eq_getElem (by omega))
      obtain ⟨u', e'⟩ := hf.1 z.1 z.2 rfl
      exact ⟨u', by rw [Array.getElem?_eq_getElem (by omega), e']⟩
    · show h7.objs.size = _
      rw [sb7.1]
      show s6.heap.objs.size = _
      rw [z6', hy5]
theorem l2 {zs : List (Str × Tok)} {c : Option Value} (ok : Okay 20 A) (X : (KK w).In s.heap) (c77 : s.heap.IsCell 77 (some (.ref 86))) (pl : s.heap.PlainList 86 (strValues zs).toArray) (hz : zs.length = 5) (cl : s.heap.IsCell 79 c) (sz : s.heap.objs.size = 231)
    (hQ : ∀ s', s'.heap.IsCell 79 (some (.ref 233)) → s'.heap.PlainList 233 (([0, 1, 2, 3, 4].map tA).map Value.ref).toArray → (∀ (k : Nat) (z : Str × Tok), zs[k]? = some z → ∃ tk' n, s'.heap.get? (tA k) = some ⟨.type "list", none, .seq #[.str z.1 z.2, .int (k : Nat) tk'] n, #[]⟩) → (∀ b o, b ≠ 79 → s.heap.get? b = some o → s'.heap.get? b = some o) → s'.heap.objs.size = 242 → s'.gens = s.gens → s'.drawn = s.drawn → s'.os = s.os → wpAny (MM w) A (execs (lawB.drop 3) (LE w)) Q E s') :
    wpAny (MM w) A (execs (lawB.drop 2) (LE w)) Q E s := by
  with_reducible refine law_cons (n := 2) (n' := 3) ?_ (by kernel_rfl)
  refine wpAny_Assign_Name ?_ (by kernel_rfl)
  refine lc_y (x := "k") (cl := [("titles", 77)]) (fun _ => true) (fun v y f => y = .ref (tA (vNat v)) ∧ ∃ (z : Str × Tok) (tk' : Tok), zs[vNat v]? = some z ∧ f = [(tA (vNat v), { cls := .type "list", data := .seq #[.str z.1 z.2, .int (vNat v : Nat) tk'] })]) (some 1) (by kernel_rfl) (by kernel_rfl) (by kernel_rfl) (by kernel_rfl) (by kernel_rfl) ?_
  refine range_iter (n := 5) X (by kernel_rfl) (by kernel_rfl) (by kernel_rfl) (by kernel_rfl) (by kernel_rfl) (by kernel_rfl) fun h1 tk1 z1 k1 ri1 => ?_
  have nI : ∀ b o, s.heap.get? b = some o → b ≠ s.heap.objs.size + 1 := fun b o e => Nat.ne_of_lt (Nat.lt_succ_of_lt (Heap.lt_size e))
  have z1' : h1.objs.size = 233 := by rw [z1, sz]
  refine ⟨_, _, 5, _, _, rfl, WalkZ.range ok.hd (s.heap.objs.size + 1) 5, by decide, ri1, ?_, ⟨?_, ?_⟩, ?_⟩
  · intro b hb
    rw [List.mem_singleton] at hb
    show b < h1.objs.size
    rw [hb, z1]; exact Nat.lt_succ_self _
  · intro C i v s6 m6 E6 _ _ _ _ _
    exact wpAny_tests_nil ⟨rfl, Nx.refl _, fun _ => rfl⟩
  · rintro C i v s6 m6 E6 hC ⟨hi, ti, rfl⟩ _ N6 hm6 k6 hs6
    have k6' : Kp s.heap s6.heap := fun b o e => k6 b o (nI b o e) (k1 _ _ e)
    have e6 : s6.heap.objs.size = tA i := by
      rw [hs6 1 rfl fun _ => rfl]
      show h1.objs.size + 2 + 1 * i = 235 + i
      rw [z1']; omega
    have hiz : i < zs.length := by omega
    refine wpAny_List ?_
    refine args_cons ?_ (by kernel_rfl)
    refine Subscript_ ?_
    refine wpAny_Name (wpAny_loadName_cell (c := 77) (by kernel_rfl) (by kernel_rfl) (by rfl) (c77.keeps k6') ?_)
    refine nm_local N6 hm6 ?_ (by kernel_rfl) (by kernel_rfl)
    refine item_at (v := .str zs[i].1 zs[i].2) (pl_kp pl k6').isList (by omega) (by omega) ?_ ?_ (by kernel_rfl)
    · simp [strValues, hiz]
    refine args_cons ?_ (by kernel_rfl)
    refine nm_local N6 hm6 ?_ (by kernel_rfl) (by kernel_rfl)
    refine args_nil ?_
    refine ⟨(by show 2 ≤ 16777216; decide), ?_⟩
    refine ⟨⟨[(tA i, { cls := .type "list", data := .seq #[.str zs[i].1 zs[i].2, .int (i : Nat) ti] })], ⟨by rw [e6]; rfl, zs[i], ti, List.getElem?_eq_getElem hiz, rfl⟩, ?_⟩, ⟨fun b o e => Heap.get?_push_of_some _ e, rfl, rfl, rfl⟩, ?_⟩
    · intro q hq
      rw [List.mem_singleton] at hq
      subst hq
      have hg := Heap.get?_push_size s6.heap (o := { cls := .type "list", data := .seq #[.str zs[i].1 zs[i].2, .int (i : Nat) ti] }) rfl
      rw [e6] at hg
      refine ⟨hg, ?_⟩
      show C < tA i
      rw [← e6]
      exact N6.lt
    · intro k e
      cases e
      show (s6.heap.push _).objs.size = _
      rw [Heap.size_push]
  · intro s6 ys vs6 pl6 hlen6 hP6 hM6 k6 g6 d6 o6 z6
    have z6' := z6 1 rfl
    rw [List.filter_eq_self.mpr (fun _ _ => rfl)] at hM6
    have hy5 : ys.size = 5 := by
      have e1 := hM6.length
      rw [Array.length_toList, hlen6] at e1
      exact e1
    have hat : ∀ k, k < 5 → ys[k]? = some (.ref (tA k)) ∧ ∃ (z : Str × Tok) (tk' : Tok), zs[k]? = some z ∧ s6.heap.get? (tA k) = some { cls := .type "list", data := .seq #[.str z.1 z.2, .int (k : Nat) tk'] } := by
      intro k hk
      have hk' : k < vs6.length := by omega
      obtain ⟨_, t, ev⟩ := hP6 k vs6[k] (List.getElem?_eq_getElem hk')
      obtain ⟨f, ⟨hf1, z, tk', hz', hf2⟩, hq⟩ := made_get hM6 k vs6[k] ys[k] (List.getElem?_eq_getElem hk') (by rw [Array.getElem?_toList]; exact Array.getElem?_eq_getElem (by omega))
      have en : vNat vs6[k] = k := by rw [ev]; simp [vNat]
      rw [en] at hf1 hz' hf2
      refine ⟨by rw [Array.getElem?_eq_getElem (by omega), hf1], z, tk', hz', ?_⟩
      exact hq _ (by rw [hf2]; exact List.mem_singleton.mpr rfl)
    have hys : ys = (([0, 1, 2, 3, 4].map tA).map Value.ref).toArray := by
      apply Array.ext'
      apply List.ext_getElem?
      intro i
      rw [Array.getElem?_toList]
      by_cases hi : i < 5
      · rw [(hat i hi).1]
        match i, hi with
        | 0, _ => rfl
        | 1, _ => rfl
        | 2, _ => rfl
        | 3, _ => rfl
        | 4, _ => rfl
      · rw [Array.getElem?_eq_none (by omega), List.getElem?_eq_none (by simp; omega)]
    have kk : Kp s.heap s6.heap := fun b o e => k6 b o (nI b o e) (k1 _ _ e)
    dsimp only at pl6 z6' ⊢
    rw [z1'] at pl6 z6' ⊢
    refine wpAny_storeName_cell (c := 79) (by kernel_rfl) (by kernel_rfl) (by kernel_rfl) (cl.keeps kk) fun h7 c7 sb7 => ?_
    have pz := pl6.at fun o e => sb7.extBut _ _ (by decide) e
    rw [hys] at pz
    have kz : ∀ b o, b ≠ 79 → s.heap.get? b = some o → h7.get? b = some o := fun b o hb e => sb7.extBut _ _ hb (kk _ _ e)
    with_reducible refine hQ _ c7 pz (fun k z hk => ?_) kz ?_ g6 d6 o6
    · have hk5 : k < 5 := by have := (List.getElem?_eq_some_iff.mp hk).1; omega
      obtain ⟨_, z', tk', e1, e2⟩ := hat k hk5
      rw [hk] at e1
      cases e1
      exact ⟨tk', _, sb7.extBut _ _ (tA_ne k (by decide)) e2⟩
    · show h7.objs.size = _
      rw [sb7.1]
      show s6.heap.objs.size = _
      rw [z6', hy5]
end
end Mine

set_option maxRecDepth 100000
set_option maxHeartbeats 20000000
namespace Mine
open PySem.Calls Builtin

def tta (tt : Nat → Str) (a : Addr) : Str := tt (a - 235)
theorem tta_tA (tt : Nat → Str) (k : Nat) : tta tt (tA k) = tt k := by
  show tt (235 + k - 235) = tt k
  rw [Nat.add_sub_cancel_left]
theorem rkA_tA (tt : Nat → Str) (j k : Nat) : rkA (tta tt) (tA j) (tA k) = rkN (nmT tt) j k := by
  unfold rkA rkN
  rw [tta_tA, tta_tA]
theorem ins1_tA (tt : Nat → Str) (ds : List Nat) (x : Nat) : ((ds.map tA).filter (fun d => askOp .GtE (rkA (tta tt) d (tA x))) ++ [tA x] ++ (ds.map tA).filter (fun d => !askOp .GtE (rkA (tta tt) d (tA x)))) = (ins1 tt ds x).map tA := by
  unfold ins1
  rw [List.filter_map, List.filter_map, List.map_append, List.map_append]
  congr 2
  · congr 2; funext d; simp [Function.comp, rkA_tA]
  · congr 1; congr 1; funext d; simp [Function.comp, rkA_tA]
theorem ins3_tA (tt : Nat → Str) (ds : List Nat) (x : Nat) : ((ds.map tA).filter (fun d => !askOp .Gt (rkA (tta tt) d (tA x))) ++ [tA x] ++ (ds.map tA).filter (fun d => askOp .Gt (rkA (tta tt) d (tA x)))) = (ins3 tt ds x).map tA := by
  unfold ins3
  rw [List.filter_map, List.filter_map, List.map_append, List.map_append]
  congr 2
  · congr 2; funext d; simp [Function.comp, rkA_tA]
  · congr 1; congr 1; funext d; simp [Function.comp, rkA_tA]
theorem LS.lam {w : World} {tt : Nat → Str} {s₀ s s' : Shared} {m : Str → Option Value} {ps ps' : Array Value} (L : LS w tt s₀ m ps s) (hx : Heap.ExtBut 71 s.heap s'.heap) (hp : s'.heap.get? 71 = some (tabObj ps')) (g : s'.gens = s.gens) (d : s'.drawn = s.drawn) (o : s'.os = s.os) : LS w tt s₀ m ps' s' :=
  ⟨L.bf.kb fun b o h1 _ _ _ e => hx b o h1 e, L.ns.extBut hx (by decide), hp, fun b o h1 h2 h3 e => hx b o h3 (L.old b o h1 h2 h3 e), g.trans L.gens, d.trans L.dr, o.trans L.os⟩
theorem BF.ttl {w : World} {nm tt : Nat → Str} {h : Heap} (b : BF w nm tt h) {k : Nat} (hk : k < 5) : Title h (tA k) (tta tt (tA k)) := by rw [tta_tA]; exact b.title hk
theorem ins_lt {tt : Nat → Str} {ds : List Nat} {x n : Nat} (h : ∀ d ∈ ds, d < n) (hx : x < n) : (∀ d ∈ ins1 tt ds x, d < n) ∧ (∀ d ∈ ins3 tt ds x, d < n) := by
  refine ⟨fun d hd => ?_, fun d hd => ?_⟩
  · unfold ins1 at hd
    simp only [List.mem_append, List.mem_filter, List.mem_singleton] at hd
    rcases hd with (hd | rfl) | hd
    · exact h d hd.1
    · exact hx
    · exact h d hd.1
  · unfold ins3 at hd
    simp only [List.mem_append, List.mem_filter, List.mem_singleton] at hd
    rcases hd with (hd | rfl) | hd
    · exact h d hd.1
    · exact hx
    · exact h d hd.1
theorem flt_split (p : Nat → Bool) : ∀ (l : List Nat), (l.filter p).length + (l.filter (fun x => !p x)).length = l.length
  | [] => rfl
  | a :: l => by
    have ih := flt_split p l
    cases h : p a <;> simp [h] <;> omega
theorem ins_len {tt : Nat → Str} {ds : List Nat} {x : Nat} : (ins1 tt ds x).length = ds.length + 1 ∧ (ins3 tt ds x).length = ds.length + 1 := by
  unfold ins1 ins3
  simp only [List.length_append, List.length_singleton]
  have a1 := flt_split (fun d => askOp .GtE (rkN (nmT tt) d x)) ds
  have a3 := flt_split (fun d => askOp .Gt (rkN (nmT tt) d x)) ds
  omega

section
variable {w : World} {A : Around} {s s₀ : Shared} {E : Value → Shared → Prop} {Q : Flow → Shared → Prop} {tt : Nat → Str} {m : Str → Option Value} {ps : Array Value}
def red3 (tt : Nat → Str) (i : Nat) : List Nat := ([1, 2, 3, 4].take i).foldl (ins3 tt) [0]
theorem red3_ok (tt : Nat → Str) : ∀ i, (∀ d ∈ red3 tt i, d < 5) ∧ (red3 tt i).length ≤ i + 1 := by
  intro i
  induction i with
  | zero => exact ⟨by simp [red3], by simp [red3]⟩
  | succ i ih =>
    unfold red3 at ih ⊢
    rw [List.take_add_one]
    by_cases hi : i < 4
    · have e : [1, 2, 3, 4][i]? = some (i + 1) := by match i, hi with | 0, _ => rfl | 1, _ => rfl | 2, _ => rfl | 3, _ => rfl
      rw [e, List.foldl_append]
      refine ⟨(ins_lt ih.1 (by omega)).2, ?_⟩
      show (ins3 tt _ (i + 1)).length ≤ _
      rw [ins_len.2]
      have := ih.2
      omega
    · rw [List.getElem?_eq_none (by simp; omega)]
      simp only [Option.toList_none, List.append_nil]
      exact ⟨ih.1, Nat.le_trans ih.2 (by omega)⟩
theorem red3_succ (tt : Nat → Str) {i : Nat} (hi : i < 4) : red3 tt (i + 1) = ins3 tt (red3 tt i) (i + 1) := by
  unfold red3
  rw [List.take_add_one]
  have e : [1, 2, 3, 4][i]? = some (i + 1) := by match i, hi with | 0, _ => rfl | 1, _ => rfl | 2, _ => rfl | 3, _ => rfl
  rw [e, List.foldl_append]
  rfl
theorem th_item {x : Value} {i : Nat} (hx : ((([0, 1, 2, 3, 4].map tA).map Value.ref).toArray)[i]? = some x) : i < 5 ∧ x = .ref (tA i) := by
  have hi : i < 5 := by have := (Array.getElem?_eq_some_iff.mp hx).1; simpa using this
  rw [th_get i hi] at hx
  exact ⟨hi, by injection hx with hx; exact hx.symm⟩

def Inv3 (tt : Nat → Str) : Nat → Value → Heap → Prop
  | 0, v, _ => v = .none
  | i + 1, v, h => ∃ D, v = .ref D ∧ h.PlainList D (((red3 tt i).map tA).map Value.ref).toArray
theorem st13 (ok : Okay 20 A) (pl : PL tt) (L : LS w tt s₀ m ps s) (ht : TriplesOk ps.toList) (hnf : codeAmong (posOf (lam 13)) ps.toList = none) {rl : Addr} (hr : m "row" = some (.ref rl)) (hrl : s.heap.PlainList rl (((dueT tt).map tA).map Value.ref).toArray)
    (hQ : ∀ ps' s', LS w tt s₀ m ps' s' → Kb s.heap s'.heap → wpAny (MM w) A (execs (lawB.drop 14) (LE w)) Q E s') :
    wpAny (MM w) A (execs (lawB.drop 13) (LE w)) Q E s := by
  with_reducible refine law_cons (n := 13) (n' := 14) ?_ (by kernel_rfl)
  refine wpAny_If ?_
  refine wpAny_isTrue_Compare1 ?_
  refine Call_ ?_ (by kernel_rfl)
  refine nm_glob (w := w) L.bf.X (v := .ref 30) (by kernel_rfl) ?_ (by kernel_rfl) (by kernel_rfl) (by kernel_rfl)
  with_reducible refine callWith_def (o := ob w 30) (fd := fdAt w 30) (by kernel_rfl) ?_ (by kernel_rfl)
  refine args_cons ?_ (by kernel_rfl)
  refine mk_lam (p := lamP (lam 13)) (b := lamB (lam 13)) (sc := lamS (lam 13)) (pos := posOf (lam 13)) L.bf.X L.tb ht hnf (by kernel_rfl) (by kernel_rfl) fun f c' ct pm s1 hx hf hcd hp g1 d1 o1 => ?_
  have L1 := L.lam hx hp g1 d1 o1
  have kb1 : Kb s.heap s1.heap := fun b o h1 _ _ _ e => hx b o h1 e
  refine args_cons ?_ (by kernel_rfl)
  refine wpAny_Name (wpAny_loadName_cell (by kernel_rfl) (by kernel_rfl) (by kernel_rfl) L1.bf.cT ?_)
  refine args_cons ?_ (by kernel_rfl)
  refine wpAny_Constant_none ?_
  refine args_nil ?_
  refine ⟨ob_at L1.bf.X 30 (by kernel_rfl), ?_⟩
  refine (reduce_c (n := 8) (v0 := .none) L1.bf.X hf rfl L1.bf.tl.isList (Inv3 tt) ?mono ?step rfl ?init).use (ok.le (by decide)) (Kp.refl _) ?_
  case mono =>
    intro i v h1 h2 k hi
    cases i with
    | zero => exact hi
    | succ i => obtain ⟨D, e, p⟩ := hi; exact ⟨D, e, pl_q p k⟩
  case init =>
    intro A s Q E k hq
    exact wpAny_is_other rfl (by intro e; cases e) hq
  case step =>
    intro i v x h' k hx' hi
    obtain ⟨hi5, rfl⟩ := th_item hx'
    have B' := L1.bf.kp k
    have hcd' : h'.CodeRec (.ref c') "law.<locals>.<lambda>" := by obtain ⟨p, o, vs, t, e1, e2, e3⟩ := hcd; exact ⟨p, o, vs, t, e1, k _ _ e2, e3⟩
    cases i with
    | zero =>
      cases hi
      intro A' s' Q' E' ok' k' hq'
      exact lam3_none B'.X (k _ _ hf) hcd' A' s' Q' E' ok' k' fun v s'' nx h => hq' v s'' nx h
    | succ i =>
      obtain ⟨D, rfl, pD⟩ := hi
      have r3 := red3_ok tt i
      intro A' s' Q' E' ok' k' hq'
      refine lam3_c (tt := tta tt) (D := D) (x := tA (i + 1)) (ds := (red3 tt i).map tA) B'.X B'.C (k _ _ hf) hcd' B'.cK pD (B'.ttl hi5) (fun d hd => ?_) (by rw [List.length_map]; have := r3.2; omega) A' s' Q' E' ok' k' fun v s'' nx h => hq' v s'' nx ?_
      · obtain ⟨j, hj, rfl⟩ := List.mem_map.mp hd
        exact B'.ttl (r3.1 j hj)
      · obtain ⟨D', e, p⟩ := h
        refine ⟨D', e, ?_⟩
        rw [ins3_tA, ← red3_succ tt (by omega)] at p
        exact p
  intro v s2 nx2 hi
  obtain ⟨D, rfl, pD⟩ : Inv3 tt 5 v s2.heap := hi
  have e5 : red3 tt 4 = dueT tt := pl.again
  rw [e5] at pD
  have L2 := L1.nx nx2
  refine nm_local L2.ns hr ?_ (by kernel_rfl) (by kernel_rfl)
  have hne : ∀ o xs n, s.heap.get? rl = some o → o.data = .seq xs n → True := fun _ _ _ _ _ => trivial
  have hrl2 : s2.heap.PlainList rl (((dueT tt).map tA).map Value.ref).toArray := by
    obtain ⟨n, e⟩ := hrl
    exact ⟨n, nx2.kp _ _ (hx _ _ (by rintro rfl; rw [L.tb] at e; cases e) e)⟩
  refine ne_same (ok.le (by decide)) pD.isList hrl2.isList ?_
  refine wpAny_truthy_bool ?_
  rw [if_neg (by decide)]
  refine wpAny_execs_nil ?_
  have kbz : Kb s.heap s2.heap := fun b o h1 h2 h3 h4 e => nx2.kp _ _ (kb1 b o h1 h2 h3 h4 e)
  with_reducible exact hQ _ s2 L2 kbz
end
end Mine

set_option maxRecDepth 100000
set_option maxHeartbeats 20000000
namespace Mine
open PySem.Calls Builtin
section
variable {w : World} {A : Around} {s s₀ : Shared} {E : Value → Shared → Prop} {Q : Flow → Shared → Prop} {tt : Nat → Str} {m : Str → Option Value} {ps : Array Value}
def pk (tt : Nat → Str) (i : Nat) : Nat := ([1, 2, 3, 4].take i).foldl (pick tt) 0
theorem pk_succ (tt : Nat → Str) {i : Nat} (hi : i < 4) : pk tt (i + 1) = pick tt (pk tt i) (i + 1) := by
  unfold pk
  rw [List.take_add_one]
  have e : [1, 2, 3, 4][i]? = some (i + 1) := by match i, hi with | 0, _ => rfl | 1, _ => rfl | 2, _ => rfl | 3, _ => rfl
  rw [e, List.foldl_append]
  rfl
theorem pk_lt (tt : Nat → Str) : ∀ i, i ≤ 4 → pk tt i < 5
  | 0, _ => by show 0 < 5; decide
  | i + 1, h => by
    rw [pk_succ tt (by omega)]
    have := pk_lt tt i (by omega)
    unfold pick
    split <;> omega
def Inv2 (tt : Nat → Str) : Nat → Value → Prop
  | 0, _ => False
  | i + 1, v => v = .ref (tA (pk tt i))
theorem headD_get {l : List Nat} (h : 0 < l.length) : l.headD 0 = l[0] := by
  cases l with
  | nil => cases h
  | cons a l => rfl
theorem st12 (ok : Okay 20 A) (pl : PL tt) (L : LS w tt s₀ m ps s) (ht : TriplesOk ps.toList) (hnf : codeAmong (posOf (lam 12)) ps.toList = none) {dl : Addr} {ys : Array Value}
    (hd : m "due" = some (.ref dl)) (hdl : s.heap.PlainList dl ys) (hi : Ints (dueT tt) ys.toList)
    (hQ : ∀ c' s', LS w tt s₀ m (ps ++ #[rawInt (posOf (lam 12)).line, rawInt (posOf (lam 12)).col, .ref c']) s' → Kb s.heap s'.heap → wpAny (MM w) A (execs (lawB.drop 13) (LE w)) Q E s') :
    wpAny (MM w) A (execs (lawB.drop 12) (LE w)) Q E s := by
  with_reducible refine law_cons (n := 12) (n' := 13) ?_ (by kernel_rfl)
  refine wpAny_If ?_
  refine wpAny_isTrue_Compare1 ?_
  refine Call_ ?_ (by kernel_rfl)
  refine nm_glob (w := w) L.bf.X (v := .ref 30) (by kernel_rfl) ?_ (by kernel_rfl) (by kernel_rfl) (by kernel_rfl)
  with_reducible refine callWith_def (o := ob w 30) (fd := fdAt w 30) (by kernel_rfl) ?_ (by kernel_rfl)
  refine args_cons ?_ (by kernel_rfl)
  refine mk_lam (p := lamP (lam 12)) (b := lamB (lam 12)) (sc := lamS (lam 12)) (pos := posOf (lam 12)) L.bf.X L.tb ht hnf (by kernel_rfl) (by kernel_rfl) fun f c' ct pm s1 hx hf hcd hp g1 d1 o1 => ?_
  have L1 := L.lam hx hp g1 d1 o1
  have kb1 : Kb s.heap s1.heap := fun b o h1 _ _ _ e => hx b o h1 e
  refine args_cons ?_ (by kernel_rfl)
  refine wpAny_Name (wpAny_loadName_cell (by kernel_rfl) (by kernel_rfl) (by kernel_rfl) L1.bf.cT ?_)
  refine args_nil ?_
  refine ⟨ob_at L1.bf.X 30 (by kernel_rfl), ?_⟩
  refine (reduce_m (n := 8) (v0 := .ref (tA 0)) L1.bf.X hf rfl L1.bf.tl.isList (fun i v _ => Inv2 tt i v) (fun _ _ _ _ _ h => h) ?step (th_get 0 (by decide)) rfl).use (ok.le (by decide)) (Kp.refl _) ?_
  case step =>
    intro i v x h' k hx' hi
    obtain ⟨hi5, rfl⟩ := th_item hx'
    have B' := L1.bf.kp k
    have hcd' : h'.CodeRec (.ref c') "law.<locals>.<lambda>" := by obtain ⟨p, o, vs, t, e1, e2, e3⟩ := hcd; exact ⟨p, o, vs, t, e1, k _ _ e2, e3⟩
    cases i with
    | zero => exact hi.elim
    | succ i =>
      cases hi
      have hpk := pk_lt tt i (by omega)
      intro A' s' Q' E' ok' k' hq'
      refine lam2_c B'.X B'.C (k _ _ hf) hcd' B'.cK (B'.title hpk) (B'.title hi5) A' s' Q' E' ok' k' fun v s'' nx h => hq' v s'' nx ?_
      show v = .ref (tA (pk tt (i + 1)))
      rw [pk_succ tt (by omega)]
      refine h.trans ?_
      show Value.ref (if rkN (nmT tt) (i + 1) (pk tt i) < 0 then tA (i + 1) else tA (pk tt i)) = _
      unfold pick
      by_cases hc : rkN (nmT tt) (i + 1) (pk tt i) < 0
      · rw [if_pos hc, if_pos hc]
      · rw [if_neg hc, if_neg hc]
  intro v s2 nx2 hi2
  have hv : v = .ref (tA (pk tt 4)) := hi2
  subst hv
  have e5 : pk tt 4 = (dueT tt).headD 0 := pl.first
  have hlen : 0 < (dueT tt).length := by rw [pl.dueL]; decide
  have e6 : (dueT tt).headD 0 = (dueT tt)[0] := headD_get hlen
  have L2 := L1.nx nx2
  have hdl2 : s2.heap.PlainList dl ys := by
    obtain ⟨n, e⟩ := hdl
    exact ⟨n, nx2.kp _ _ (hx _ _ (by rintro rfl; rw [L.tb] at e; cases e) e)⟩
  obtain ⟨t0, e0⟩ := ints_get hi (i := 0) (k := (dueT tt)[0]) (List.getElem?_eq_getElem hlen)
  refine Subscript_ ?_
  refine wpAny_Name (wpAny_loadName_cell (by kernel_rfl) (by kernel_rfl) (by kernel_rfl) L2.bf.cT ?_)
  refine Subscript_ ?_
  refine nm_local L2.ns hd ?_ (by kernel_rfl) (by kernel_rfl)
  refine wpAny_Constant_int ?_
  refine item_at (s := { s2 with toks := s2.toks + 1 }) hdl2.isList (by decide) (by decide) e0 ?_ (by kernel_rfl)
  have h05 : (dueT tt)[0] < 5 := pl.due5 _ (List.getElem_mem hlen)
  refine item_at (s := { s2 with toks := s2.toks + 1 }) (v := .ref (tA (dueT tt)[0])) L2.bf.tl.isList (by omega) (by omega) (by simpa using th_get _ h05) ?_ (by kernel_rfl)
  rw [e5, e6]
  obtain ⟨_, tk, tk', n, e⟩ := L2.bf.th _ h05
  refine ne_same (s := { s2 with toks := s2.toks + 1 }) (ok.le (by decide)) ⟨_, e, rfl, n, rfl⟩ ⟨_, e, rfl, n, rfl⟩ ?_
  refine wpAny_truthy_bool ?_
  rw [if_neg (by decide)]
  refine wpAny_execs_nil ?_
  have kbz : Kb s.heap s2.heap := fun b o h1 h2 h3 h4 e => nx2.kp _ _ (kb1 b o h1 h2 h3 h4 e)
  exact hQ _ _ (L2.nx ⟨Kp.refl _, rfl, rfl, rfl⟩) kbz
theorem st11 (ok : Okay 20 A) (L : LS w tt s₀ m ps s) (hQ : ∀ s', LS w tt s₀ m ps s' → Kp s.heap s'.heap → wpAny (MM w) A (execs (lawB.drop 12) (LE w)) Q E s') :
    wpAny (MM w) A (execs (lawB.drop 11) (LE w)) Q E s := by
  with_reducible refine law_cons (n := 11) (n' := 12) ?_ (by kernel_rfl)
  refine wpAny_If ?_
  refine wpAny_isTrue_Compare1 ?_
  refine fiveK_e (ok.le (by decide)) L.bf fun D s1 ys vs nx1 pl1 hl1 hP1 hM1 => ?_
  have L1 := L.nx nx1
  refine fiveN_e (ok.le (by decide)) L1.bf fun D2 s2 ys2 vs2 nx2 pl2 hl2 hP2 hM2 => ?_
  have L2 := L1.nx nx2
  have z1 : ys.size = 3 := by have := hM1.length; rw [hl1] at this; simpa using this
  have z2 : ys2.size = 3 := by have := hM2.length; rw [hl2] at this; simpa using this
  refine ne_five (ok.le (by decide)) z1 z2 (pl_kp pl1 nx2.kp).isList pl2.isList (fun j => rkN (nmT tt) j (j + 1)) (fun j hj => ?_) (fun j hj => ?_) ?_
  · have hj' : j < vs.length := by omega
    have e := List.getElem?_eq_getElem hj'
    obtain ⟨f, ⟨T, n, e1, e2⟩, hf⟩ := made_get hM1 j _ ys[j] e (by simp [hj])
    obtain ⟨_, t, ev⟩ := hP1 j _ e
    subst e2
    have := hf _ (List.mem_singleton.mpr rfl)
    rw [ev] at this
    exact ⟨T, n, e1, nx2.kp _ _ (by simpa [vNat, rkN] using this)⟩
  · have hj' : j < vs2.length := by omega
    have e := List.getElem?_eq_getElem hj'
    obtain ⟨f, ⟨T, n, e1, e2⟩, hf⟩ := made_get hM2 j _ ys2[j] e (by simp [hj])
    obtain ⟨_, t, ev⟩ := hP2 j _ e
    subst e2
    have := hf _ (List.mem_singleton.mpr rfl)
    rw [ev] at this
    exact ⟨T, n, e1, by simpa [vNat, rkN] using this⟩
  refine wpAny_truthy_bool ?_
  rw [if_neg (by decide)]
  refine wpAny_execs_nil ?_
  have kz := nx1.kp.trans nx2.kp
  with_reducible exact hQ s2 L2 kz
end
end Mine

set_option maxRecDepth 100000
set_option maxHeartbeats 20000000
namespace Mine
open PySem.Calls Builtin
section
variable {w : World} {A : Around} {s s₀ : Shared} {E : Value → Shared → Prop} {Q : Flow → Shared → Prop} {tt : Nat → Str} {m : Str → Option Value} {ps : Array Value}
def red1 (tt : Nat → Str) (i : Nat) : List Nat := ([0, 1, 2, 3, 4].take i).foldl (ins1 tt) []
theorem red1_succ (tt : Nat → Str) {i : Nat} (hi : i < 5) : red1 tt (i + 1) = ins1 tt (red1 tt i) i := by
  unfold red1
  rw [List.take_add_one]
  have e : [0, 1, 2, 3, 4][i]? = some i := by match i, hi with | 0, _ => rfl | 1, _ => rfl | 2, _ => rfl | 3, _ => rfl | 4, _ => rfl
  rw [e, List.foldl_append]
  rfl
theorem red1_ok (tt : Nat → Str) : ∀ i, i ≤ 5 → (∀ d ∈ red1 tt i, d < 5) ∧ (red1 tt i).length = i
  | 0, _ => ⟨(by intro d hd; simp [red1] at hd), rfl⟩
  | i + 1, h => by
    have ih := red1_ok tt i (by omega)
    rw [red1_succ tt (by omega)]
    exact ⟨(ins_lt ih.1 (by omega)).1, by rw [ins_len.1, ih.2]⟩
theorem st10 (ok : Okay 20 A) (pl : PL tt) (L : LS w tt s₀ m ps s) (ht : TriplesOk ps.toList) (hnf : codeAmong (posOf (lam 10)) ps.toList = none) {bl : Addr} {ys : Array Value}
    (hb : m "back" = some (.ref bl)) (hbl : s.heap.PlainList bl ys) (hi : Ints (backT tt) ys.toList)
    (hQ : ∀ c' s', LS w tt s₀ m (ps ++ #[rawInt (posOf (lam 10)).line, rawInt (posOf (lam 10)).col, .ref c']) s' → Kb s.heap s'.heap → wpAny (MM w) A (execs (lawB.drop 11) (LE w)) Q E s') :
    wpAny (MM w) A (execs (lawB.drop 10) (LE w)) Q E s := by
  with_reducible refine law_cons (n := 10) (n' := 11) ?_ (by kernel_rfl)
  refine wpAny_If ?_
  refine wpAny_isTrue_Compare1 ?_
  refine Call_ ?_ (by kernel_rfl)
  refine nm_glob (w := w) L.bf.X (v := .ref 30) (by kernel_rfl) ?_ (by kernel_rfl) (by kernel_rfl) (by kernel_rfl)
  with_reducible refine callWith_def (o := ob w 30) (fd := fdAt w 30) (by kernel_rfl) ?_ (by kernel_rfl)
  refine args_cons ?_ (by kernel_rfl)
  refine mk_lam (p := lamP (lam 10)) (b := lamB (lam 10)) (sc := lamS (lam 10)) (pos := posOf (lam 10)) L.bf.X L.tb ht hnf (by kernel_rfl) (by kernel_rfl) fun f c' ct pm s1 hx hf hcd hp g1 d1 o1 => ?_
  have L1 := L.lam hx hp g1 d1 o1
  have kb1 : Kb s.heap s1.heap := fun b o h1 _ _ _ e => hx b o h1 e
  refine args_cons ?_ (by kernel_rfl)
  refine wpAny_Name (wpAny_loadName_cell (by kernel_rfl) (by kernel_rfl) (by kernel_rfl) L1.bf.cT ?_)
  refine args_cons ?_ (by kernel_rfl)
  refine wpAny_List ?_
  refine args_nil ?_
  refine ⟨Nat.zero_le _, ?_⟩
  refine args_nil ?_
  have kp1 : Kp s1.heap (s1.heap.push { cls := .type "list", data := .seq ([] : List Value).toArray }) := fun b o e => Heap.get?_push_of_some _ e
  have LL : LS w tt s₀ m _ { s1 with heap := s1.heap.push { cls := .type "list", data := .seq ([] : List Value).toArray } } := L1.nx ⟨kp1, rfl, rfl, rfl⟩
  have e0 := Heap.get?_push_size s1.heap (o := { cls := .type "list", data := .seq ([] : List Value).toArray }) rfl
  have hcd1 : (s1.heap.push { cls := .type "list", data := .seq ([] : List Value).toArray }).CodeRec (.ref c') "law.<locals>.<lambda>" := by obtain ⟨p, o, vs, t, e1, e2, e3⟩ := hcd; exact ⟨p, o, vs, t, e1, kp1 _ _ e2, e3⟩
  refine ⟨ob_at LL.bf.X 30 (by kernel_rfl), ?_⟩
  have o22 := ob_at LL.bf.X 22 (by kernel_rfl)
  have h22 : s1.heap.objs.size ≠ 22 := by
    rintro e
    have q := ob_at L1.bf.X 22 (by kernel_rfl)
    have := Heap.lt_size q
    rw [e] at this
    exact Nat.lt_irrefl _ this
  refine (reduce_c (n := 8) (v0 := .ref s1.heap.objs.size) LL.bf.X (kp1 _ _ hf) rfl LL.bf.tl.isList (fun i v h => ∃ D, v = .ref D ∧ h.PlainList D (((red1 tt i).map tA).map Value.ref).toArray) ?mono ?step ⟨_, rfl, 0, e0⟩ ?init).use (ok.le (by decide)) (Kp.refl _) ?_
  case mono =>
    rintro i v h1 h2 k ⟨D, e, p⟩
    exact ⟨D, e, pl_q p k⟩
  case init =>
    intro A s Q E k hq
    exact wpAny_is_ref_other h22 (k _ _ e0) (k _ _ o22) (by intro e; injection e with e; exact absurd e (by decide)) hq
  case step =>
    rintro i v x h' k hx' ⟨D, rfl, pD⟩
    obtain ⟨hi5, rfl⟩ := th_item hx'
    have B' := LL.bf.kp k
    have hcd' : h'.CodeRec (.ref c') "law.<locals>.<lambda>" := by obtain ⟨p, o, vs, t, e1, e2, e3⟩ := hcd1; exact ⟨p, o, vs, t, e1, k _ _ e2, e3⟩
    have r1 := red1_ok tt i (by omega)
    intro A' s' Q' E' ok' k' hq'
    refine lam1_c (tt := tta tt) (D := D) (x := tA i) (ds := (red1 tt i).map tA) B'.X B'.C (k _ _ (kp1 _ _ hf)) hcd' B'.cK pD (B'.ttl hi5) (fun d hd => ?_) (by rw [List.length_map]; have := r1.2; omega) A' s' Q' E' ok' k' fun v s'' nx h => hq' v s'' nx ?_
    · obtain ⟨j, hj, rfl⟩ := List.mem_map.mp hd
      exact B'.ttl (r1.1 j hj)
    · obtain ⟨D', e, p⟩ := h
      refine ⟨D', e, ?_⟩
      rw [ins1_tA, ← red1_succ tt hi5] at p
      exact p
  intro v s2 nx2 hi2
  obtain ⟨D, rfl, pD⟩ : ∃ D, v = .ref D ∧ s2.heap.PlainList D (((red1 tt 5).map tA).map Value.ref).toArray := hi2
  have e5 : red1 tt 5 = backT tt := pl.back
  rw [e5] at pD
  have L2 := LL.nx nx2
  have hbl2 : s2.heap.PlainList bl ys := by
    obtain ⟨n, e⟩ := hbl
    exact ⟨n, nx2.kp _ _ (kp1 _ _ (hx _ _ (by rintro rfl; rw [L.tb] at e; cases e) e))⟩
  refine thingsB_e (ok.le (by decide)) L2.bf L2.ns hb hbl2 hi pl.back5 (Nat.le_trans pl.backL (by decide)) fun D3 s3 nx3 pl3 => ?_
  refine ne_same (ok.le (by decide)) (pl_kp pD nx3.kp).isList pl3.isList ?_
  refine wpAny_truthy_bool ?_
  rw [if_neg (by decide)]
  refine wpAny_execs_nil ?_
  exact hQ _ _ (L2.nx nx3) fun b o h1 h2 h3 h4 e => nx3.kp _ _ (nx2.kp _ _ (kp1 _ _ (kb1 b o h1 h2 h3 h4 e)))
theorem st9 (ok : Okay 20 A) (pl : PL tt) (L : LS w tt s₀ m ps s) {rl dl : Addr} {ys : Array Value} (hr : m "row" = some (.ref rl)) (hrl : s.heap.PlainList rl (((dueT tt).map tA).map Value.ref).toArray)
    (hd : m "due" = some (.ref dl)) (hdl : s.heap.PlainList dl ys) (hi : Ints (dueT tt) ys.toList)
    (hQ : ∀ s', LS w tt s₀ m ps s' → Kp s.heap s'.heap → wpAny (MM w) A (execs (lawB.drop 10) (LE w)) Q E s') :
    wpAny (MM w) A (execs (lawB.drop 9) (LE w)) Q E s := by
  with_reducible refine law_cons (n := 9) (n' := 10) ?_ (by kernel_rfl)
  refine wpAny_If ?_
  refine wpAny_isTrue_Compare1 ?_
  refine nm_local L.ns hr ?_ (by kernel_rfl) (by kernel_rfl)
  refine things_e (ok.le (by decide)) L.bf L.ns hd hdl hi pl.due5 (by rw [pl.dueL]; decide) fun D3 s3 nx3 pl3 => ?_
  refine ne_same (ok.le (by decide)) (pl_kp hrl nx3.kp).isList pl3.isList ?_
  refine wpAny_truthy_bool ?_
  rw [if_neg (by decide)]
  refine wpAny_execs_nil ?_
  have Lz := L.nx nx3
  have kz := nx3.kp
  with_reducible exact hQ _ Lz kz
end
end Mine

set_option maxRecDepth 100000
set_option maxHeartbeats 20000000
namespace Mine
open PySem.Calls Builtin
def posC : Expr → Pos | .Call _ _ _ p => p | _ => ⟨0, 0, 0, 0⟩
def kwPos : Expr → Pos | .Call _ _ (k :: _) _ => (match k.value with | .Name _ p => p | _ => ⟨0, 0, 0, 0⟩) | _ => ⟨0, 0, 0, 0⟩
section
variable {w : World} {A : Around} {s s₀ : Shared} {E : Value → Shared → Prop} {Q : Flow → Shared → Prop} {tt : Nat → Str} {m : Str → Option Value} {ps : Array Value}
theorem Call_K {M : Model} {Q : Value → Shared → Prop} {env : Env} {func : Expr} {args : List Expr} {kws : List Keyword} {pos : Pos} (h : wpAny M A (eval func env) (fun f s₁ => wpAny M A (callWith pos f [] (backTo pos (starEach args env)) (backToKw pos (keywordEach kws env))) Q E s₁) E s)
    (he : eval (.Call func args kws pos) env = (do callWith pos (← eval func env) [] (backTo pos (starEach args env)) (backToKw pos (keywordEach kws env)))) : wpAny M A (eval (.Call func args kws pos) env) Q E s := by
  rw [he]; exact wpAny_bind h
theorem callWith_kw1 {M : Model} {env : Env} {pos : Pos} {id : String} {e : Expr} {rest : List Expr} {kws : List Keyword} {Q : Value → Shared → Prop} {n : Str} {t : Sem Value} (hk : backToKw pos (keywordEach kws env) = [(some n, t)])
    (h : wpAny M A (spliced (backTo pos (starEach (e :: rest) env))) (fun vs s₁ => wpAny M A t (fun v s₂ => wpAny M A (call (.builtin id) vs [(n, v)]) Q E s₂) E s₁) E s)
    (he : backTo pos (starEach (e :: rest) env) = (false, eval e env) :: backTo pos (starEach rest env)) (hplain : (backTo pos (starEach (e :: rest) env)).any (·.1) = false) :
    wpAny M A (callWith pos (.builtin id) [] (backTo pos (starEach (e :: rest) env)) (backToKw pos (keywordEach kws env))) Q E s := by
  refine callWith_kw ?_ he hplain (by rw [hk]; rfl) (by rw [hk]; rfl)
  rw [hk]
  exact wpAny_mono h (fun vs s₁ h₁ => wpAny_evalAll_cons (wpAny_mono h₁ (fun v s₂ h₂ => wpAny_evalAll_nil h₂) fun _ _ x => x)) fun _ _ x => x
theorem LS.set {h' : Heap} {m' : Str → Option Value} {tk : Nat} (L : LS w tt s₀ m ps s) (N : h'.Ns 76 m') (sb : Heap.SameBut 76 s.heap h') : LS w tt s₀ m' ps { s with heap := h', toks := tk } :=
  ⟨L.bf.kb fun b o _ h2 _ _ e => sb.extBut b o h2 e, N, sb.extBut _ _ (by decide) L.tb, fun b o h1 h2 h3 e => sb.extBut b o (Nat.ne_of_lt h1) (L.old b o h1 h2 h3 e), L.gens, L.dr, L.os⟩
theorem LS.setC {h' : Heap} {c : Addr} {tk : Nat} (L : LS w tt s₀ m ps s) (hc : c = 80 ∨ c = 81) (sb : Heap.SameBut c s.heap h') : LS w tt s₀ m ps { s with heap := h', toks := tk } := by
  have n1 : c ≠ 76 := by rcases hc with rfl | rfl <;> decide
  have n2 : c ≠ 71 := by rcases hc with rfl | rfl <;> decide
  have n3 : ∀ b, b < 76 → b ≠ c := fun b hb => by rcases hc with rfl | rfl <;> exact Nat.ne_of_lt (Nat.lt_of_lt_of_le hb (by decide))
  exact ⟨L.bf.kb fun b o _ _ h3 h4 e => sb.extBut b o (by rcases hc with rfl | rfl <;> assumption) e, L.ns.sameBut sb (Ne.symm n1), sb.extBut _ _ (Ne.symm n2) L.tb, fun b o h1 h2 h3 e => sb.extBut b o (n3 b h1) (L.old b o h1 h2 h3 e), L.gens, L.dr, L.os⟩
theorem row_eq (pl : PL tt) : ((kRun (ltN (nmT tt)) (kas_sort 5)).toList.map fun i => (([0, 1, 2, 3, 4].map tA).map Value.ref).getD i Value.none) = ((dueT tt).map tA).map Value.ref := by
  rw [pl.row, show ((dueT tt).map tA).map Value.ref = (dueT tt).map (fun i => Value.ref (tA i)) from by rw [List.map_map]; rfl]
  refine List.map_congr_left fun i hi => ?_
  have := pl.due5 i hi
  match i, this with
  | 0, _ => rfl
  | 1, _ => rfl
  | 2, _ => rfl
  | 3, _ => rfl
  | 4, _ => rfl
theorem lt_rk (tt : Nat → Str) : ∀ i j (h1 : i < ([0, 1, 2, 3, 4].map tA).length) (h2 : j < ([0, 1, 2, 3, 4].map tA).length), ltN (nmT tt) i j = askOp .Lt (rkA (tta tt) ([0, 1, 2, 3, 4].map tA)[i] ([0, 1, 2, 3, 4].map tA)[j]) := by
  have g : ∀ i (h : i < ([0, 1, 2, 3, 4].map tA).length), ([0, 1, 2, 3, 4].map tA)[i] = tA i := by
    intro i h
    have h' : i < 5 := h
    match i, h' with
    | 0, _ => rfl
    | 1, _ => rfl
    | 2, _ => rfl
    | 3, _ => rfl
    | 4, _ => rfl
  intro i j h1 h2
  rw [g i h1, g j h2, rkA_tA]
  exact decide_eq_decide.mpr (rk_lt _ _).symm
theorem st8 (ok : Okay 20 A) (pl : PL tt) (L : LS w tt s₀ m ps s)
    (hQ : ∀ rl s', LS w tt s₀ (fun z => if z = Str.ofString "row" then some (.ref rl) else m z) ps s' → (∀ b o, b ≠ 76 → s.heap.get? b = some o → s'.heap.get? b = some o) → s'.heap.PlainList rl (((dueT tt).map tA).map Value.ref).toArray → wpAny (MM w) A (execs (lawB.drop 9) (LE w)) Q E s') :
    wpAny (MM w) A (execs (lawB.drop 8) (LE w)) Q E s := by
  with_reducible refine law_cons (n := 8) (n' := 9) ?_ (by kernel_rfl)
  refine wpAny_Assign_Name ?_ (by kernel_rfl)
  refine Call_K ?_ (by kernel_rfl)
  refine nm_blt (w := w) L.bf.X (v := .builtin "sorted") (by kernel_rfl) (by kernel_rfl) ?_ (by kernel_rfl) (by kernel_rfl) (by kernel_rfl) (by kernel_rfl)
  refine callWith_kw1 (n := "key") (t := (do let v ← eval (.Name (Str.ofString "key") (kwPos (valOf (stAt lawB 8)))) (LE w); standAt (posC (valOf (stAt lawB 8))); pure v)) (by kernel_rfl) ?_ (by kernel_rfl) (by kernel_rfl)
  refine args_cons ?_ (by kernel_rfl)
  refine wpAny_Name (wpAny_loadName_cell (by kernel_rfl) (by kernel_rfl) (by kernel_rfl) L.bf.cT ?_)
  refine args_nil ?_
  refine wpAny_bind (wpAny_Name (wpAny_loadName_cell (by kernel_rfl) (by kernel_rfl) (by kernel_rfl) L.bf.cK (wpAny_bind (wpAny_standAt (wpAny_pure ?_)))))
  refine sorted_c (as := [0, 1, 2, 3, 4].map tA) (tt := tta tt) (h := s.heap) L.bf.X L.bf.C L.bf.tl.isList (fun a ha => ?_) (by decide) (by decide) (ltN (nmT tt)) (lt_rk tt) pl.ok (ok.le (by decide)) (Kp.refl _) ?_
  · obtain ⟨j, hj, rfl⟩ := List.mem_map.mp ha
    have : j < 5 := by simp only [List.mem_cons, List.not_mem_nil, or_false] at hj; omega
    exact L.bf.ttl this
  intro D s2 nx2 pl2
  have e2 := row_eq pl
  rw [show (([0, 1, 2, 3, 4].map tA).length) = 5 from rfl, e2] at pl2
  have L2 := L.nx nx2
  refine wpAny_storeName_local (by kernel_rfl) L2.ns ?_ (by kernel_rfl)
  intro h3 N3 sb3
  refine hQ D _ (L2.set N3 sb3) (fun b o hb e => sb3.extBut _ _ hb (nx2.kp _ _ e)) ?_
  obtain ⟨n, e⟩ := pl2
  have hD : D ≠ 76 := by
    rintro rfl
    obtain ⟨o, es, ep, eo, ed, _⟩ := L2.ns
    rw [eo] at e
    cases e
    cases ed
  exact ⟨n, sb3.extBut _ _ hD e⟩
end
end Mine

set_option maxRecDepth 100000
set_option maxHeartbeats 20000000
namespace Mine
open PySem.Calls Builtin
section
variable {w : World} {A : Around} {s s₀ : Shared} {E : Value → Shared → Prop} {Q : Flow → Shared → Prop} {tt : Nat → Str} {m : Str → Option Value} {ps : Array Value}
theorem LS.put {s' : Shared} {m' : Str → Option Value} (L : LS w tt s₀ m ps s) (N : s'.heap.Ns 76 m') (k : ∀ b o, b ≠ 76 → s.heap.get? b = some o → s'.heap.get? b = some o) (g : s'.gens = s.gens) (d : s'.drawn = s.drawn) (o : s'.os = s.os) : LS w tt s₀ m' ps s' :=
  ⟨L.bf.kb fun b o _ h2 _ _ e => k b o h2 e, N, k _ _ (by decide) L.tb, fun b o h1 h2 h3 e => k b o (Nat.ne_of_lt h1) (L.old b o h1 h2 h3 e), g.trans L.gens, d.trans L.dr, o.trans L.os⟩
theorem st7 (ok : Okay 20 A) (L : LS w tt s₀ m ps s) {al : Addr} {ys : Array Value} (hc : s.heap.IsCell 81 (some (.ref al))) (hl : s.heap.PlainList al ys) (hi : Ints ((List.range 5).map (aheadN (gtN (nmT tt)) (nmT tt))) ys.toList)
    (hQ : ∀ bl s' zs, LS w tt s₀ (fun z => if z = Str.ofString "back" then some (.ref bl) else m z) ps s' → (∀ b o, b ≠ 76 → s.heap.get? b = some o → s'.heap.get? b = some o) → s'.heap.PlainList bl zs → Ints (backT tt) zs.toList → wpAny (MM w) A (execs (lawB.drop 8) (LE w)) Q E s') :
    wpAny (MM w) A (execs (lawB.drop 7) (LE w)) Q E s := by
  with_reducible refine law_cons (n := 7) (n' := 8) ?_ (by kernel_rfl)
  with_reducible refine back_e (ok.le (by decide)) L.bf L.ns hc hl hi ?_
  intro D s' zs N k g d o pl il
  have Lz := L.put N k g d o
  have iz : Ints (backT tt) zs.toList := il
  with_reducible exact hQ D s' zs Lz k pl iz
theorem st6 (ok : Okay 20 A) (L : LS w tt s₀ m ps s) {al : Addr} {ys : Array Value} (hc : s.heap.IsCell 80 (some (.ref al))) (hl : s.heap.PlainList al ys) (hi : Ints ((List.range 5).map (aheadN (ltN (nmT tt)) (nmT tt))) ys.toList)
    (hQ : ∀ bl s' zs, LS w tt s₀ (fun z => if z = Str.ofString "due" then some (.ref bl) else m z) ps s' → (∀ b o, b ≠ 76 → s.heap.get? b = some o → s'.heap.get? b = some o) → s'.heap.PlainList bl zs → Ints (dueT tt) zs.toList → wpAny (MM w) A (execs (lawB.drop 7) (LE w)) Q E s') :
    wpAny (MM w) A (execs (lawB.drop 6) (LE w)) Q E s := by
  with_reducible refine law_cons (n := 6) (n' := 7) ?_ (by kernel_rfl)
  with_reducible refine due_e (ok.le (by decide)) L.bf L.ns hc hl hi ?_
  intro D s' zs N k g d o pl il
  have Lz := L.put N k g d o
  have iz : Ints (dueT tt) zs.toList := il
  with_reducible exact hQ D s' zs Lz k pl iz
theorem st5 (ok : Okay 20 A) (L : LS w tt s₀ m ps s) {c : Option Value} (hc : s.heap.IsCell 81 c)
    (hQ : ∀ al s' zs, LS w tt s₀ m ps s' → (∀ b o, b ≠ 81 → s.heap.get? b = some o → s'.heap.get? b = some o) → s'.heap.IsCell 81 (some (.ref al)) → s'.heap.PlainList al zs → Ints ((List.range 5).map (aheadN (gtN (nmT tt)) (nmT tt))) zs.toList → wpAny (MM w) A (execs (lawB.drop 6) (LE w)) Q E s') :
    wpAny (MM w) A (execs (lawB.drop 5) (LE w)) Q E s := by
  with_reducible refine law_cons (n := 5) (n' := 6) ?_ (by kernel_rfl)
  refine wpAny_Assign_Name ?_ (by kernel_rfl)
  refine turned_e (ok.le (by decide)) L.bf fun D s1 ys nx pl il => ?_
  have L1 := L.nx nx
  refine wpAny_storeName_cell (c := 81) (by kernel_rfl) (by kernel_rfl) (by kernel_rfl) (hc.keeps nx.kp) fun h2 c2 sb2 => ?_
  have hD : D ≠ 81 := by
    rintro rfl
    obtain ⟨n, e⟩ := pl
    obtain ⟨o, e', d⟩ := hc.keeps nx.kp
    rw [e] at e'; cases e'; cases d
  have Lz := fun tk => L1.setC (tk := tk) (.inr rfl) sb2
  have kz : ∀ b o, b ≠ 81 → s.heap.get? b = some o → h2.get? b = some o := fun b o hb e => sb2.extBut _ _ hb (nx.kp _ _ e)
  have pz := pl.at fun o e => sb2.extBut _ _ hD e
  first | with_reducible exact hQ D _ ys (Lz _) kz c2 pz il | exact hQ D _ ys (Lz _) kz c2 pz il
theorem st4 (ok : Okay 20 A) (L : LS w tt s₀ m ps s) {c : Option Value} (hc : s.heap.IsCell 80 c)
    (hQ : ∀ al s' zs, LS w tt s₀ m ps s' → (∀ b o, b ≠ 80 → s.heap.get? b = some o → s'.heap.get? b = some o) → s'.heap.IsCell 80 (some (.ref al)) → s'.heap.PlainList al zs → Ints ((List.range 5).map (aheadN (ltN (nmT tt)) (nmT tt))) zs.toList → wpAny (MM w) A (execs (lawB.drop 5) (LE w)) Q E s') :
    wpAny (MM w) A (execs (lawB.drop 4) (LE w)) Q E s := by
  with_reducible refine law_cons (n := 4) (n' := 5) ?_ (by kernel_rfl)
  refine wpAny_Assign_Name ?_ (by kernel_rfl)
  refine ahead_e (ok.le (by decide)) L.bf fun D s1 ys nx pl il => ?_
  have L1 := L.nx nx
  refine wpAny_storeName_cell (c := 80) (by kernel_rfl) (by kernel_rfl) (by kernel_rfl) (hc.keeps nx.kp) fun h2 c2 sb2 => ?_
  have hD : D ≠ 80 := by
    rintro rfl
    obtain ⟨n, e⟩ := pl
    obtain ⟨o, e', d⟩ := hc.keeps nx.kp
    rw [e] at e'; cases e'; cases d
  have Lz := fun tk => L1.setC (tk := tk) (.inl rfl) sb2
  have kz : ∀ b o, b ≠ 80 → s.heap.get? b = some o → h2.get? b = some o := fun b o hb e => sb2.extBut _ _ hb (nx.kp _ _ e)
  have pz := pl.at fun o e => sb2.extBut _ _ hD e
  first | with_reducible exact hQ D _ ys (Lz _) kz c2 pz il | exact hQ D _ ys (Lz _) kz c2 pz il
end
end Mine

set_option maxRecDepth 100000
set_option maxHeartbeats 20000000
namespace Mine
open PySem.Calls Builtin
def Fre (D : Addr) : Prop := D ≠ 71 ∧ D ≠ 76 ∧ D ≠ 80 ∧ D ≠ 81
theorem pl_fre {h : Heap} {D : Addr} {xs ps : Array Value} {m : Str → Option Value} {c c' : Option Value} (p : h.PlainList D xs) (ht : h.get? 71 = some (tabObj ps)) (hn : h.Ns 76 m) (h0 : h.IsCell 80 c) (h1 : h.IsCell 81 c') : Fre D := by
  obtain ⟨n, e⟩ := p
  refine ⟨?_, ?_, ?_, ?_⟩ <;> rintro rfl
  · rw [ht] at e; cases e
  · obtain ⟨o, es, ep, e', d, _⟩ := hn; rw [e'] at e; cases e; cases d
  · obtain ⟨o, e', d⟩ := h0; rw [e'] at e; cases e; cases d
  · obtain ⟨o, e', d⟩ := h1; rw [e'] at e; cases e; cases d
theorem pl_kb {h h' : Heap} {D : Addr} {xs : Array Value} (f : Fre D) (p : h.PlainList D xs) (k : Kb h h') : h'.PlainList D xs := let ⟨n, e⟩ := p; ⟨n, k _ _ f.1 f.2.1 f.2.2.1 f.2.2.2 e⟩
theorem pl_76 {h h' : Heap} {D : Addr} {xs : Array Value} (f : Fre D) (p : h.PlainList D xs) (k : ∀ b o, b ≠ 76 → h.get? b = some o → h'.get? b = some o) : h'.PlainList D xs := let ⟨n, e⟩ := p; ⟨n, k _ _ f.2.1 e⟩
section
variable {w : World} {A : Around} {s s₀ : Shared} {E : Value → Shared → Prop} {Q : Flow → Shared → Prop} {tt : Nat → Str} {m : Str → Option Value}
theorem law_rest (ok : Okay 20 A) (pl : PL tt) (L : LS w tt s₀ m #[] s) {c c' : Option Value} (h80 : s.heap.IsCell 80 c) (h81 : s.heap.IsCell 81 c') (hQ : ∀ m' ps' s', LS w tt s₀ m' ps' s' → Q (.ret (.bool true)) s') :
    wpAny (MM w) A (execs (lawB.drop 4) (LE w)) Q E s := by
  have cl : ∀ {h h' : Heap} {a b : Addr} {v : Option Value}, a ≠ b → h.IsCell a v → (∀ x o, x ≠ b → h.get? x = some o → h'.get? x = some o) → h'.IsCell a v := fun hab ⟨o, e, d⟩ k => ⟨o, k _ _ hab e, d⟩
  with_reducible refine st4 ok L h80 fun al s1 z1 L1 k1 c80 p1 i1 => ?_
  have c81 : s1.heap.IsCell 81 c' := cl (by decide) h81 k1
  have f1 := pl_fre p1 L1.tb L1.ns c80 c81
  with_reducible refine st5 ok L1 c81 fun bl s2 z2 L2 k2 c81' p2 i2 => ?_
  have c80' : s2.heap.IsCell 80 _ := cl (by decide) c80 k2
  have p1' : s2.heap.PlainList al z1 := let ⟨n, e⟩ := p1; ⟨n, k2 _ _ f1.2.2.2 e⟩
  have f2 := pl_fre p2 L2.tb L2.ns c80' c81'
  with_reducible refine st6 ok L2 c80' p1' i1 fun dl s3 z3 L3 k3 p3 i3 => ?_
  have d80 : s3.heap.IsCell 80 _ := cl (by decide) c80' k3
  have d81 : s3.heap.IsCell 81 _ := cl (by decide) c81' k3
  have f3 := pl_fre p3 L3.tb L3.ns d80 d81
  with_reducible refine st7 ok L3 d81 (pl_76 f2 p2 k3) i2 fun el s4 z4 L4 k4 p4 i4 => ?_
  have e80 : s4.heap.IsCell 80 _ := cl (by decide) d80 k4
  have e81 : s4.heap.IsCell 81 _ := cl (by decide) d81 k4
  have f4 := pl_fre p4 L4.tb L4.ns e80 e81
  have q3 := pl_76 f3 p3 k4
  with_reducible refine st8 ok pl L4 fun rl s5 L5 k5 p5 => ?_
  have g80 : s5.heap.IsCell 80 _ := cl (by decide) e80 k5
  have g81 : s5.heap.IsCell 81 _ := cl (by decide) e81 k5
  have f5 := pl_fre p5 L5.tb L5.ns g80 g81
  have q3' := pl_76 f3 q3 k5
  have q4 := pl_76 f4 p4 k5
  with_reducible refine st9 ok pl L5 (rl := rl) (dl := dl) (ys := z3) (by kernel_rfl) p5 (by kernel_rfl) q3' i3 fun s6 L6 k6 => ?_
  have r5 := pl_kp p5 k6
  have r3 := pl_kp q3' k6
  have r4 := pl_kp q4 k6
  with_reducible refine st10 ok pl L6 (by with_unfolding_all trivial) (by kernel_rfl) (bl := el) (by kernel_rfl) r4 i4 fun c1 s7 L7 k7 => ?_
  have t5 := pl_kb f5 r5 k7
  have t3 := pl_kb f3 r3 k7
  with_reducible refine st11 ok L7 fun s8 L8 k8 => ?_
  have u5 := pl_kp t5 k8
  have u3 := pl_kp t3 k8
  with_reducible refine st12 ok pl L8 (by with_unfolding_all trivial) (by kernel_rfl) (dl := dl) (by kernel_rfl) u3 i3 fun c2 s9 L9 k9 => ?_
  have v5 := pl_kb f5 u5 k9
  have v3 := pl_kb f3 u3 k9
  with_reducible refine st13 ok pl L9 (by with_unfolding_all trivial) (by kernel_rfl) (rl := rl) (by kernel_rfl) v5 fun ps' s10 L10 k10 => ?_
  with_reducible exact st14 ok pl L10 (rl := rl) (dl := dl) (by kernel_rfl) (pl_kb f5 v5 k10) (by kernel_rfl) (pl_kb f3 v3 k10) i3 fun s' L' => hQ _ _ s' L'
end
end Mine

set_option maxRecDepth 100000
set_option maxHeartbeats 4000000
namespace Mine
open PySem.Calls Builtin PySem.W.X

theorem l3 {w : World} {A : Around} {s : Shared} {E : Value → Shared → Prop} {Q : Flow → Shared → Prop} {c : Option Value} (ok : Okay 20 A) (X : (KK w).In s.heap) (ZH : KT.Holds s.heap 1 0 (hd.ktop_187 w.params)) (sz : s.heap.objs.size = 242) (hg : s.gens = #[]) (cl : s.heap.IsCell 82 c)
    (hQ : ∀ s', s'.heap.IsCell 82 (some (.ref 302)) → CF s'.heap → (∀ b o, b ≠ 82 → b ≠ 16 → s.heap.get? b = some o → s'.heap.get? b = some o) → Tab16 s.heap s'.heap → s'.gens = #[] → s'.drawn = s.drawn → s'.os = s.os → wpAny (MM w) A (execs (lawB.drop 4) (LE w)) Q E s') :
    wpAny (MM w) A (execs (lawB.drop 3) (LE w)) Q E s := by
  with_reducible refine law_cons (n := 3) (n' := 4) ?_ (by kernel_rfl)
  refine wpAny_Assign_Name ?_ (by kernel_rfl)
  refine Call_ ?_ (by kernel_rfl)
  refine nm_glob (w := w) X (v := .ref 21) (by kernel_rfl) ?_ (by kernel_rfl) (by kernel_rfl) (by kernel_rfl)
  with_reducible refine callWith_def (o := ob w 21) (fd := fdAt w 21) (by kernel_rfl) ?_ (by kernel_rfl)
  refine args_cons ?_ (by kernel_rfl)
  refine nm_glob (w := w) X (v := .ref 55) (by kernel_rfl) ?_ (by kernel_rfl) (by kernel_rfl) (by kernel_rfl)
  refine args_nil ?_
  refine ⟨ob_at X 21 (by kernel_rfl), ?_⟩
  refine wk (ok.le (by decide)) (mk_class w s ZH sz hg _ _ fun h1 tk1 C1 k1 z1 t1 => ?_)
  have c1 : h1.IsCell 82 c := let ⟨o, q, r⟩ := cl; ⟨o, k1 _ _ q (by decide), r⟩
  refine wpAny_storeName_cell (c := 82) (by kernel_rfl) (by kernel_rfl) (by kernel_rfl) c1 fun h2 c2 sb2 => ?_
  have kz : ∀ b o, b ≠ 82 → b ≠ 16 → s.heap.get? b = some o → h2.get? b = some o := fun b o hb hb' e => sb2.extBut _ _ hb (k1 _ _ e hb')
  first | with_reducible refine hQ _ c2 ?_ kz ?_ rfl rfl rfl | refine hQ _ c2 ?_ kz ?_ rfl rfl rfl
  · have kb : ∀ b o, Nat.blt 82 b = true → h1.get? b = some o → h2.get? b = some o := fun b o hb e => sb2.extBut b o (Nat.ne_of_gt (Nat.blt_eq.mp hb)) e
    obtain ⟨⟨a1, a2, a3⟩, ⟨b1, b2, b3, b4⟩, ⟨c1, c2⟩, d, ⟨e1, e2⟩, ⟨f1, f2, f3⟩, ⟨g1, g2⟩, ⟨i1, i2, i3⟩, ⟨j1, j2⟩, ⟨l1, l2, l3⟩, ⟨m1, m2⟩, ⟨n1, n2, n3⟩, ⟨o1, o2⟩, ⟨p1, p2, p3⟩, ⟨q1, q2⟩, ⟨r1, r2, r3⟩⟩ := C1
    exact ⟨⟨a1, a2, kb _ _ rfl a3⟩, ⟨b1, b2, b3, kb _ _ rfl b4⟩, ⟨c1, kb _ _ rfl c2⟩, kb _ _ rfl d, ⟨e1, kb _ _ rfl e2⟩, ⟨f1, f2, kb _ _ rfl f3⟩, ⟨g1, kb _ _ rfl g2⟩, ⟨i1, i2, kb _ _ rfl i3⟩, ⟨j1, kb _ _ rfl j2⟩, ⟨l1, l2, kb _ _ rfl l3⟩, ⟨m1, kb _ _ rfl m2⟩, ⟨n1, n2, kb _ _ rfl n3⟩, ⟨o1, kb _ _ rfl o2⟩, ⟨p1, p2, kb _ _ rfl p3⟩, ⟨q1, kb _ _ rfl q2⟩, ⟨r1, r2, kb _ _ rfl r3⟩⟩
  · obtain ⟨cc, ps, more, ht, he⟩ := t1
    exact ⟨cc, ps, more, ht, sb2.extBut _ _ (by decide) he⟩

/-! ## the frame of it all -/
theorem lk_filter {a : Addr} {o : Obj} (p : Addr → Bool) : ∀ (l : Frag), (l.filter fun q => p q.1).lookup a = some o → l.lookup a = some o
  | [], h => by cases h
  | (k, v) :: l, h => by
    rw [List.lookup_cons]
    cases hp : p k with
    | true =>
      rw [List.filter_cons_of_pos (by exact hp), List.lookup_cons] at h
      cases hk : a == k with
      | true => rw [hk] at h; exact h
      | false => rw [hk] at h; exact lk_filter p l h
    | false =>
      rw [List.filter_cons_of_neg (by simp [hp])] at h
      cases hk : a == k with
      | false => exact lk_filter p l h
      | true =>
        have e : a = k := beq_iff_eq.mp hk
        subst e
        exfalso
        have gen : ∀ (l : Frag), (l.filter fun q => p q.1).lookup a = none := by
          intro l
          induction l with
          | nil => rfl
          | cons q r ih =>
            obtain ⟨k', v'⟩ := q
            cases hp' : p k' with
            | true =>
              rw [List.filter_cons_of_pos (by exact hp'), List.lookup_cons]
              have : (a == k') = false := by
                apply beq_eq_false_iff_ne.mpr
                rintro rfl
                rw [hp] at hp'; cases hp'
              rw [this]; exact ih
            | false => rw [List.filter_cons_of_neg (by simp [hp'])]; exact ih
        rw [gen l] at h
        cases h
theorem KK_of {w : World} {h : Heap} (K : (hd.heap_113 w.params).In h) : (KK w).In h := fun a o e => K a o (lk_filter (fun k => !(Nat.beq k 16 || Nat.beq k 71)) _ e)
noncomputable def cd21 (w : World) : Addr := match (fdAt w 21).code with | .ref c => c | _ => 0
noncomputable def vs21 (w : World) : Array Value := match (ob w (cd21 w)).data with | .fields vs => vs | _ => #[]
theorem tab16 {w : World} {h : Heap} (X : (KK w).In h) : isCodeTable h 16 := by
  refine ⟨cd21 w, ob w (cd21 w), vs21 w, ob_at X _ (by kernel_rfl), by kernel_rfl, by kernel_rfl, by kernel_rfl⟩
theorem tab71 {w : World} {h : Heap} (X : (KK w).In h) : isCodeTable h 71 := by
  refine ⟨73, ob w 73, lcV w, ob_at X _ (by kernel_rfl), by kernel_rfl, by kernel_rfl, by kernel_rfl⟩
theorem obj71 {w : World} {h : Heap} (K : (hd.heap_113 w.params).In h) : h.get? 71 = some (tabObj #[]) := K 71 _ (by kernel_rfl)

abbrev cO : Obj := { cls := .type "cell", data := .cell none }
def push6 (h : Heap) : Heap := (((((h.push cO).push cO).push cO).push cO).push cO).push cO
theorem push6_at {h : Heap} (hz : h.objs.size = 77) : (push6 h).objs.size = 83 ∧ Kp h (push6 h) ∧ (push6 h).IsCell 77 none ∧ (push6 h).IsCell 78 none ∧ (push6 h).IsCell 79 none ∧ (push6 h).IsCell 80 none ∧ (push6 h).IsCell 81 none ∧ (push6 h).IsCell 82 none := by
  unfold push6
  have one : ∀ (h : Heap) (n : Nat), h.objs.size = n → (h.push cO).get? n = some cO ∧ (h.push cO).objs.size = n + 1 := fun h n e => by
    have := Heap.get?_push_size h (o := cO) rfl
    rw [e] at this
    exact ⟨this, by rw [Heap.size_push, e]⟩
  have kp : ∀ (h : Heap) {b : Addr} {o : Obj}, h.get? b = some o → (h.push cO).get? b = some o := fun h _ _ e => Heap.get?_push_of_some _ e
  obtain ⟨a1, z1⟩ := one h 77 hz
  obtain ⟨a2, z2⟩ := one _ 78 z1
  obtain ⟨a3, z3⟩ := one _ 79 z2
  obtain ⟨a4, z4⟩ := one _ 80 z3
  obtain ⟨a5, z5⟩ := one _ 81 z4
  obtain ⟨a6, z6⟩ := one _ 82 z5
  exact ⟨z6, fun b o e => kp _ (kp _ (kp _ (kp _ (kp _ (kp _ e))))), ⟨_, kp _ (kp _ (kp _ (kp _ (kp _ a1)))), rfl⟩, ⟨_, kp _ (kp _ (kp _ (kp _ a2))), rfl⟩, ⟨_, kp _ (kp _ (kp _ a3)), rfl⟩, ⟨_, kp _ (kp _ a4), rfl⟩, ⟨_, kp _ a5, rfl⟩, ⟨_, a6, rfl⟩⟩
theorem law_c (w : World) (s : Shared) (vs : List Value) (ns : List Int) (Q E : Value → Shared → Prop) (KX : (hd.heap_113 w.params).In s.heap) (ZH : KT.Holds s.heap 1 0 (hd.ktop_187 w.params)) (hs : s.heap.objs.size = 76) (hg : s.gens = #[])
    (hl : s.heap.IsList 75 vs.toArray) (hi : IntsAre vs ns) (hn : ns.length ≤ 2 ^ 20) (hQ : ∀ s', OldK s.heap s'.heap → s'.os = s.os → s'.gens = #[] → Q (.bool true) s') : wpAny (model PR w) callerA (call (.ref 74) [.ref 75]) Q E s := by
  have X := KK_of KX
  have ok : Okay 21 callerA := ⟨rfl, by decide, by decide⟩
  refine wpAny_call ?_
  refine enterZ (fdAt w 74) lawB "script" (.ref 75) ok.room X (by kernel_rfl) (by kernel_rfl) (by kernel_rfl) (by kernel_rfl) (by kernel_rfl) (by kernel_rfl) (by kernel_rfl) (by kernel_rfl) (by kernel_rfl) (by kernel_rfl) ?_
  intro h0 tk0 N0 sb0
  rw [hs] at N0 sb0 ⊢
  have ok1 := ok.deeper (LE w)
  rw [show pushCells (s.heap.push { cls := .type "frame", data := .dict #[] }) (fdAt w 74).scope.names = push6 (s.heap.push { cls := .type "frame", data := .dict #[] }) from by kernel_rfl] at sb0
  have zf : (s.heap.push { cls := .type "frame", data := .dict #[] }).objs.size = 77 := by rw [Heap.size_push, hs]
  obtain ⟨zp, kpp, p0, p1, p2, p3, p4, p5⟩ := push6_at zf
  have low : ∀ b o, s.heap.get? b = some o → b < 76 := fun b o e => hs ▸ Heap.lt_size e
  have ge : ∀ {b n : Nat}, b < 76 → Nat.ble 76 n = true → b ≠ n := fun h1 h2 => Nat.ne_of_lt (Nat.lt_of_lt_of_le h1 (Nat.le_of_ble_eq_true h2))
  have k0 : Kp s.heap h0 := fun b o e => sb0.extBut b o (ge (low b o e) rfl) (kpp _ _ (Heap.get?_push_of_some _ e))
  have z0 : h0.objs.size = 83 := by rw [sb0.1, zp]
  have cl : ∀ {j : Addr}, j ≠ 76 → (push6 (s.heap.push { cls := .type "frame", data := .dict #[] })).IsCell j none → h0.IsCell j none := fun hj ⟨o, q, r⟩ => ⟨o, sb0.extBut _ _ hj q, r⟩
  have cm : ∀ {h h' : Heap} {j n : Addr} {v : Option Value}, (∀ b o, b ≠ n → h.get? b = some o → h'.get? b = some o) → j ≠ n → h.IsCell j v → h'.IsCell j v := fun k hj ⟨o, q, r⟩ => ⟨o, k _ _ hj q, r⟩
  have q1 := X.keeps k0
  have q2 := list_kp hl k0
  have q3 := cl (by decide) p0
  with_reducible refine l0 ok1 q1 N0 (by rw [if_pos (by with_unfolding_all decide)]) q2 hi hn q3 z0 fun s1 zs a77 pl1 hz hzs k1 z1 g1 d1 o1 => ?_
  have kp1 : Kp s.heap s1.heap := fun b o e => k1 b o (ge (low b o e) rfl) (k0 b o e)
  have q4 := X.keeps kp1
  have q5 : s1.heap.IsCell 78 none := cm k1 (by decide) (cl (by decide) p1)
  with_reducible refine l1 ok1 q4 a77 pl1 hz hzs q5 z1 fun s2 ys a78 pl2 hy hyk k2 z2 g2 d2 o2 => ?_
  have kp2 : Kp s.heap s2.heap := fun b o e => k2 b o (ge (low b o e) rfl) (kp1 b o e)
  have q6 := X.keeps kp2
  have q7 : s2.heap.IsCell 77 _ := cm k2 (by decide) a77
  have q8 := pl1.at fun o e => k2 _ _ (by decide) e
  have q9 : s2.heap.IsCell 79 none := cm k2 (by decide) (cm k1 (by decide) (cl (by decide) p2))
  with_reducible refine l2 ok1 q6 q7 q8 hz q9 z2 fun s3 a79 tl3 th3 k3 z3 g3 d3 o3 => ?_
  have kp3 : Kp s.heap s3.heap := fun b o e => k3 b o (ge (low b o e) rfl) (kp2 b o e)
  have cc : ∀ {j : Addr}, j ≠ 76 → j ≠ 77 → j ≠ 78 → j ≠ 79 → (push6 (s.heap.push { cls := .type "frame", data := .dict #[] })).IsCell j none → s3.heap.IsCell j none := fun n0 n1 n2 n3 p => cm k3 n3 (cm k2 n2 (cm k1 n1 (cl n0 p)))
  have r1 := X.keeps kp3
  have r2 := KT.Holds.keeps kp3 ZH
  have r3 : s3.gens = #[] := g3.trans (g2.trans (g1.trans hg))
  have r4 : s3.heap.IsCell 82 none := cc (by decide) (by decide) (by decide) (by decide) p5
  with_reducible refine l3 ok1 r1 r2 z3 r3 r4 fun s4 a82 C4 k4 t4 g4 d4 o4 => ?_
  have k4' : ∀ {b : Addr} {o : Obj}, Nat.beq b 82 = false → Nat.beq b 16 = false → s3.heap.get? b = some o → s4.heap.get? b = some o := fun h1 h2 e => k4 _ _ (Nat.ne_of_beq_eq_false h1) (Nat.ne_of_beq_eq_false h2) e
  have N4 : s4.heap.Ns 76 (fun y => if y = Str.ofString "script" then some (.ref 75) else none) :=
    N0.at' fun o e => k4' rfl rfl (k3 _ _ (by decide) (k2 _ _ (by decide) (k1 _ _ (by decide) e)))
  have hz0 : 0 < zs.length := by omega
  let tt : Nat → Str := fun k => (zs.getD k zs[0]).1
  have ttk : ∀ k z, zs[k]? = some z → tt k = z.1 := fun k z e => by show (zs.getD k zs[0]).1 = z.1; rw [List.getD_eq_getElem?_getD, e]; rfl
  have tmem : ∀ k, ∃ z ∈ zs, tt k = z.1 := fun k => by
    by_cases hk : k < zs.length
    · exact ⟨zs[k], List.getElem_mem hk, ttk k _ (List.getElem?_eq_getElem hk)⟩
    · refine ⟨zs[0], List.getElem_mem hz0, ?_⟩
      show (zs.getD k zs[0]).1 = _
      rw [List.getD_eq_getElem?_getD, List.getElem?_eq_none (by omega)]; rfl
  have pl : PL tt := by
    refine plain_law (fun k => ?_) (fun k => ?_) fun i hi5 => ?_
    · obtain ⟨z, hm, e⟩ := tmem k; rw [e]; exact (hzs z hm).1.sg
    · obtain ⟨z, hm, e⟩ := tmem k; rw [e]; exact Nat.le_of_eq (hzs z hm).2
    · show (zs.getD i zs[0]).1 = (zs.getD 0 zs[0]).1
      rw [List.getD_eq_getElem?_getD, List.getD_eq_getElem?_getD, List.getElem?_eq_none (by omega), List.getElem?_eq_getElem hz0]; rfl
  have X4 : (KK w).In s4.heap := fun a o e => by
    obtain ⟨h1, h2, h3⟩ := KK_keys e
    exact k4 a o (ge h1 rfl) h3 (kp3 a o (X a o e))
  have bf : BF w (nmT tt) tt s4.heap := by
    refine ⟨X4, C4, ?_, ⟨ys, ?_, hy, fun k hk => ?_⟩, ?_, ?_, fun k hk => ?_, a82⟩
    · obtain ⟨o, q, r⟩ := a78
      exact ⟨o, k4' rfl rfl (k3 _ _ (by decide) q), r⟩
    · exact pl2.at fun o e => k4' rfl rfl (k3 _ _ (by decide) e)
    · have hk' : k < zs.length := by omega
      obtain ⟨t, e⟩ := hyk k zs[k] (List.getElem?_eq_getElem hk')
      refine ⟨t, ?_⟩
      show ys[k]? = some (.str (capw (tt k)) t)
      rw [ttk k _ (List.getElem?_eq_getElem hk')]
      exact e
    · obtain ⟨o, q, r⟩ := a79
      exact ⟨o, k4' rfl rfl q, r⟩
    · exact tl3.at fun o e => k4' rfl rfl e
    · have hk' : k < zs.length := by omega
      obtain ⟨tk', n, e⟩ := th3 k zs[k] (List.getElem?_eq_getElem hk')
      have e1 := ttk k _ (List.getElem?_eq_getElem hk')
      refine ⟨?_, zs[k].2, tk', n, ?_⟩
      · rw [e1, (hzs _ (List.getElem_mem hk')).2]; decide
      · rw [e1]; exact k4 _ _ (tA_ne k (by decide)) (tA_ne k (by decide)) e
  have t71 : s4.heap.get? 71 = some (tabObj #[]) := k4' rfl rfl (kp3 _ _ (obj71 KX))
  have L4 : LS w tt s4 _ #[] s4 := ⟨bf, N4, t71, fun b o _ _ _ e => e, rfl, rfl, rfl⟩
  have c80 : s4.heap.IsCell 80 none := let ⟨o, q, r⟩ := cc (j := 80) (by decide) (by decide) (by decide) (by decide) p3; ⟨o, k4' rfl rfl q, r⟩
  have c81 : s4.heap.IsCell 81 none := let ⟨o, q, r⟩ := cc (j := 81) (by decide) (by decide) (by decide) (by decide) p4; ⟨o, k4' rfl rfl q, r⟩
  with_reducible refine law_rest ok1 pl L4 c80 c81 fun m5 ps5 s5 L5 => ?_
  refine hQ s5 ⟨fun b o e => ?_, fun b o e => ?_⟩ (L5.os.trans (o4.trans (o3.trans (o2.trans o1)))) (L5.gens.trans g4)
  · have hb := low b o e
    by_cases h71 : b = 71
    · subst h71
      rw [obj71 KX] at e
      cases e
      exact .inr (.inl ⟨tab71 X, rfl, #[], ps5, rfl, by rw [L5.tb, Array.empty_append]⟩)
    by_cases h16 : b = 16
    · subst h16
      obtain ⟨c, ps, more, ht, he⟩ := t4
      have e3 := kp3 _ _ e
      rw [ht.2] at e3
      cases e3
      exact .inr (.inl ⟨tab16 X, rfl, ps, more, rfl, L5.old 16 _ (by decide) (by decide) (by decide) he⟩)
    · exact .inl (L5.old b o hb (Nat.ne_of_lt hb) h71 (k4 b o (ge hb rfl) h16 (kp3 b o e)))
  · have hb := low b o e
    by_cases h71 : b = 71
    · subst h71; exact ⟨_, L5.tb⟩
    by_cases h16 : b = 16
    · subst h16
      obtain ⟨c, ps, more, ht, he⟩ := t4
      exact ⟨_, L5.old 16 _ (by decide) (by decide) (by decide) he⟩
    · exact ⟨o, L5.old b o hb (Nat.ne_of_lt hb) h71 (k4 b o (ge hb rfl) h16 (kp3 b o e))⟩
end Mine
theorem PySem.Challenge.cw_nq0016_01_holds : PySem.Challenge.rw_nq0016_01.Holds := by
  exact Mine.fin_of Mine.law_c
