import PyProof.Rows.All
import Wide.All
import OpenK.AllK
import Wide.FinOn
import PyProof.Rows.TupDisplay
import PySem.Challenge.RW_fc0136_01

set_option Elab.async false
section -- Base
open PySem PySem.W PySem.Calls PyProof.Rows
set_option maxRecDepth 100000
namespace Mine

abbrev P0 : Program := PySem.Challenge.pw_fc0136_01
def nth : List Stmt → Nat → Stmt
  | [], _ => .Pass default
  | a :: _, 0 => a
  | _ :: l, n + 1 => nth l n
def sBody : Stmt → List Stmt
  | .FunctionDef _ _ b _ _ _ _ _ _ _ => b
  | .ClassDef _ _ _ b _ _ _ _ _ _ _ => b
  | _ => []
def sArgs : Stmt → Arguments
  | .FunctionDef _ a _ _ _ _ _ _ _ _ => a
  | _ => ⟨[], [], none, [], [], none, []⟩
def sScope : Stmt → Scope
  | .FunctionDef _ _ _ _ _ _ sc _ _ _ => sc
  | _ => default
def topS (i : Nat) : Stmt := nth P0.main.body i
def inS (i j : Nat) : Stmt := nth (sBody (topS i)) j

abbrev Mu := Addr → Option Obj
def put (μ : Mu) (a : Addr) (o : Obj) : Mu := fun b => if b = a then some o else μ b
@[simp] theorem put_self {μ : Mu} {a : Addr} {o : Obj} : put μ a o a = some o := by simp [put]
theorem put_put {μ : Mu} {a : Addr} {o o' : Obj} : put (put μ a o) a o' = put μ a o' := by
  funext b; by_cases h : b = a <;> simp [put, h]
theorem put_ne {μ : Mu} {a b : Addr} {o : Obj} (h : b ≠ a) : put μ a o b = μ b := by simp [put, h]

structure Sit (h₀ : Heap) (L : Addr) (h : Heap) (m : Str → Option Value) (μ : Mu) : Prop where
  fr : Fr h₀ L h m
  led : ∀ a o, μ a = some o → h.get? a = some o ∧ a ≠ L ∧ h₀.get? a = none
  low : ∀ a o, μ a = some o → (a == sysModules) = false
  big : sysModules < L

section
variable {h₀ h h' : Heap} {L : Addr} {m m' : Str → Option Value} {μ μ' : Mu} {a : Addr} {o o' : Obj}
theorem Sit.get (S : Sit h₀ L h m μ) (e : μ a = some o) : h.get? a = some o := (S.led a o e).1
theorem Sit.lt (S : Sit h₀ L h m μ) (e : μ a = some o) : a < h.objs.size := Heap.lt_size (S.get e)
theorem Sit.keep (S : Sit h₀ L h m μ) {b : Addr} {x : Obj} (e : h₀.get? b = some x) : h.get? b = some x := S.fr.keep b x e
theorem Sit.new_none (S : Sit h₀ L h m μ) : μ h.objs.size = none := by
  cases q : μ h.objs.size with
  | none => rfl
  | some o => exact absurd (S.lt q) (Nat.lt_irrefl _)
theorem Sit.new_fresh (S : Sit h₀ L h m μ) : h₀.get? h.objs.size = none := by
  cases q : h₀.get? h.objs.size with
  | none => rfl
  | some o => exact absurd (Heap.lt_size (S.keep q)) (Nat.lt_irrefl _)
theorem Sit.L_lt (S : Sit h₀ L h m μ) : L < h.objs.size := by
  obtain ⟨oL, es, ep, hL, _⟩ := S.fr.ns
  exact Heap.lt_size hL
theorem Sit.push (S : Sit h₀ L h m μ) (o : Obj) (hf : o.isFreed = false := by rfl) : Sit h₀ L (h.push o) m (put μ h.objs.size o) := by
  refine ⟨S.fr.push o, fun b x e => ?_, fun b x e => ?_, S.big⟩
  · by_cases q : b = h.objs.size
    · subst q
      rw [put_self] at e; cases e
      exact ⟨Heap.get?_push_size _ hf, Nat.ne_of_gt S.L_lt, S.new_fresh⟩
    · rw [put_ne q] at e
      exact ⟨Heap.get?_push_of_some _ (S.get e), (S.led b x e).2⟩
  · by_cases q : b = h.objs.size
    · subst q
      have := Nat.lt_trans S.big S.L_lt
      exact beq_eq_false_iff_ne.mpr (Nat.ne_of_gt this)
    · rw [put_ne q] at e
      exact S.low b x e
theorem Sit.upd (S : Sit h₀ L h m μ) (e : μ a = some o) (hs : Heap.SameBut a h h') (ho : h'.get? a = some o') : Sit h₀ L h' m (put μ a o') := by
  have A := S.led a o e
  obtain ⟨oL, es, ep, hL, r⟩ := S.fr.ns
  refine ⟨⟨⟨oL, es, ep, (hs.2 L (Ne.symm A.2.1)).trans hL, r⟩, fun b x q => (hs.2 b fun z => ?_).trans (S.keep q), S.fr.above⟩, fun b x q => ?_, fun b x q => ?_, S.big⟩
  · subst z; rw [A.2.2] at q; cases q
  · by_cases z : b = a
    · subst z; rw [put_self] at q; cases q; exact ⟨ho, A.2⟩
    · rw [put_ne z] at q
      have B := S.led b x q
      exact ⟨(hs.2 b z).trans B.1, B.2⟩
  · by_cases z : b = a
    · subst z; exact S.low b o e
    · rw [put_ne z] at q; exact S.low b x q
theorem Sit.loc (S : Sit h₀ L h m μ) (hn : h'.Ns L m') (hs : Heap.SameBut L h h') : Sit h₀ L h' m' μ :=
  ⟨S.fr.set hn hs, fun b x e => have B := S.led b x e; ⟨(hs.2 b B.2.1).trans B.1, B.2⟩, S.low, S.big⟩
theorem Sit.sub (S : Sit h₀ L h m μ) (le : ∀ a o, μ' a = some o → μ a = some o) : Sit h₀ L h m μ' :=
  ⟨S.fr, fun b x e => S.led b x (le b x e), fun b x e => S.low b x (le b x e), S.big⟩

def lst (μ : Mu) (n : Nat) : List (Addr × Obj) := (List.range n).filterMap fun a => (μ a).map (a, ·)
theorem mem_lst {n : Nat} {p : Addr × Obj} : p ∈ lst μ n ↔ p.1 < n ∧ μ p.1 = some p.2 := by
  unfold lst
  rw [List.mem_filterMap]
  constructor
  · rintro ⟨a, ha, e⟩
    obtain ⟨x, hx, rfl⟩ := Option.map_eq_some_iff.mp e
    exact ⟨List.mem_range.mp ha, hx⟩
  · rintro ⟨h1, h2⟩
    exact ⟨p.1, List.mem_range.mpr h1, by rw [h2]; rfl⟩
theorem Sit.news (S : Sit h₀ L h m μ) : News h₀ L h (lst μ h.objs.size) := fun p hp => S.led _ _ (mem_lst.mp hp).2
theorem sit_of {n : Nat} (F : Fr h₀ L h m) (N : News h₀ L h (lst μ n)) (hn : ∀ a o, μ a = some o → a < n) (low : ∀ a o, μ a = some o → (a == sysModules) = false) (big : sysModules < L) : Sit h₀ L h m μ :=
  ⟨F, fun a o e => N (a, o) (mem_lst.mpr ⟨hn a o e, e⟩), low, big⟩
end

structure Here (K : Frag) (p : Program) (loose : List Str) (mean : ExcName → Option Value) (mg mb : Str → Option Value) (A : Around) (env : Env) (h₀ : Heap) (L : Addr) : Prop where
  X : K.In h₀
  T : Top p loose mean mg mb h₀
  below : ∃ A₀ base outer, Below A₀ base outer h₀ ∧ A.frames = some (env :: outer)
  frame : env.frame = some L
  kind : env.scope.kind = .function
  hand : A.handled = none

structure Anc where
  os : OsState
  drawn : Drawn
  J : Array GenState → Prop
def Keep (c : Anc) (s : Shared) : Prop := s.os = c.os ∧ s.drawn = c.drawn ∧ c.J s.gens

structure At (s0 : Anc) (h₀ : Heap) (L : Addr) (s : Shared) (m : Str → Option Value) (μ : Mu) : Prop where
  sit : Sit h₀ L s.heap m μ
  kp : Keep s0 s

section
variable {w : World} {K : Frag} {p : Program} {loose : List Str} {mean : ExcName → Option Value} {mg mb : Str → Option Value}
variable {A : Around} {env : Env} {h₀ : Heap} {L : Addr} {m : Str → Option Value} {μ : Mu} {s0 : Anc} {s : Shared}
  {R : Result → Shared → Prop} {name qual : Str} {params : Arguments} {body : List Stmt} {scope : Scope} {cl : List (Str × Addr)} {dV kV doc pm cdv ct oc : Value} {an od : Option Addr} {osl : Array (Option Value)} {f : Addr} {args : Args} {binds : List (Str × Value)}

theorem At.get (S : At s0 h₀ L s m μ) {a : Addr} {o : Obj} (e : μ a = some o) : s.heap.get? a = some o := S.sit.get e
theorem At.fr (S : At s0 h₀ L s m μ) : Fr h₀ L s.heap m := S.sit.fr
theorem At.toks (S : At s0 h₀ L s m μ) (t : Nat) : At s0 h₀ L { s with toks := t } m μ := ⟨S.sit, S.kp⟩
theorem At.heap {h' : Heap} {m' : Str → Option Value} {μ' : Mu} (S : At s0 h₀ L s m μ) (x : Sit h₀ L h' m' μ') (t : Nat) : At s0 h₀ L { s with heap := h', toks := t } m' μ' := ⟨x, S.kp⟩
theorem At.sub {μ' : Mu} (S : At s0 h₀ L s m μ) (le : ∀ a o, μ' a = some o → μ a = some o) : At s0 h₀ L s m μ' := ⟨S.sit.sub le, S.kp⟩

def Back (s0 : Anc) (h₀ : Heap) (L : Addr) (m : Str → Option Value) (g : Heap) (L' : Addr) (R : Result → Shared → Prop) (v : Value) (s' : Shared) : Prop :=
  ∃ m' μ', At s0 g L' s' m' μ' ∧ (At s0 h₀ L s' m μ' → R (.ok (.ret v)) s')
theorem Back.intro {g : Heap} {L' : Addr} {v : Value} {s' : Shared} {m' : Str → Option Value} {μ' : Mu} (S : At s0 g L' s' m' μ') (k : At s0 h₀ L s' m μ' → R (.ok (.ret v)) s') : Back s0 h₀ L m g L' R v s' := ⟨m', μ', S, k⟩

theorem call_def (H : Here K p loose mean mg mb A env h₀ L) (S : At s0 h₀ L s m μ)
    (ho : K.lookup f = some ⟨oc, od, .func (fnX name qual params body scope cl dV kV doc pm an cdv ct), osl⟩) (hcd : codeIn K cdv qual = true) (hroom : A.depth < recursionLimit)
    (hbind : BindsTo s (fnX name qual params body scope cl dV kV doc pm an cdv ct) args binds) (hloc : ∀ y ∈ binds, scope.names.lookup y.1 = some .local)
    (h : ∀ g L' s₁, Here K p loose mean mg mb (A.deeper (envX qual scope L' f cdv cl)) (envX qual scope L' f cdv cl) g L' → At s0 g L' s₁ (fun y => binds.reverse.lookup y) μ → h₀.StaysIn g →
      wpAny (model P0 w) (A.deeper (envX qual scope L' f cdv cl)) (execs body (envX qual scope L' f cdv cl))
        (fun fl s' => Back s0 h₀ L m g L' R (match fl with | .ret v => v | _ => .none) s')
        (fun e s' => wpAny (model P0 w) (A.deeper (envX qual scope L' f cdv cl)) (leaving (envX qual scope L' f cdv cl) e) (fun _ s'' => R (.error e) s'') (fun e' s'' => R (.error e') s'') s')
        s₁)
    (hcell : ∀ x ∈ scope.names, x.2 ≠ .cell) (hco : scope.isCoroutine = false := by rfl) (hgen : scope.isGenerator = false := by rfl) (hk : scope.kind = .function := by rfl) :
    codeAny (model P0 w) A (.call (.ref f) args) R s := by
  obtain ⟨A₀, base, outer, B, hA⟩ := H.below
  have X := H.X.keeps S.fr.keep
  refine callX_plain B S.fr S.sit.news H.T.nolimit hA H.frame H.kind (X _ _ ho) rfl (codeRec_of X hcd) hroom hbind hloc (fun g L' h₁ FG F' N' B' st l => ?_) hcell hco hgen hk
  have hX := H.X.keeps st
  refine wpAny_mono (h g L' _ ⟨hX, H.T.keeps st, ⟨_, _, _, B', Around.frames_deeper hA⟩, rfl, hk, H.hand⟩ ⟨sit_of F' N' (fun a o e => S.sit.lt e) S.sit.low (Nat.lt_of_lt_of_le (modules_low (H.T.keeps st).nolimit) F'.above), S.kp⟩ st) (fun fl s' hb => ?_) fun _ _ y => y
  obtain ⟨m', μ', S', k⟩ := hb
  exact ⟨L', m', lst μ' s'.heap.objs.size, S'.fr, S'.sit.news, fun F N => k ⟨sit_of F N (fun a o e => S'.sit.lt e) S'.sit.low S.sit.big, S'.kp⟩⟩
end
end Mine
end
section -- Lib
open PySem PySem.W PySem.Calls PyProof.Rows
set_option maxRecDepth 100000
set_option linter.unusedVariables false
namespace Mine

def FnIn (K : Frag) (f : Addr) (nm qual : Str) (st : Stmt) (cl : List (Str × Addr)) (dV kV : Value) : Prop :=
  ∃ oc od doc pm an cdv ct osl, K.lookup f = some ⟨oc, od, .func (fnX nm qual (sArgs st) (sBody st) (sScope st) cl dV kV doc pm an cdv ct), osl⟩ ∧ codeIn K cdv qual = true

def LO (items : List Value) (o : Obj) : Prop := o.cls = .type "list" ∧ ∃ n, o.data = .seq items.toArray n
theorem LO.isList {h : Heap} {l : Addr} {items : List Value} {o : Obj} (x : LO items o) (e : h.get? l = some o) : h.IsList l items.toArray := ⟨o, e, x.1, x.2⟩
theorem LO.of {h : Heap} {l : Addr} {items : Array Value} {its : List Value} (x : h.IsList l items) (e : items.toList = its) : ∃ o, h.get? l = some o ∧ LO its o := by
  obtain ⟨o, ho, hc, n, hd⟩ := x
  exact ⟨o, ho, hc, n, by rw [hd, ← e]⟩

section
variable {w : World} {K : Frag} {p : Program} {loose : List Str} {mean : ExcName → Option Value} {mg mb : Str → Option Value}
variable {A : Around} {h₀ : Heap} {L : Addr} {m : Str → Option Value} {μ : Mu} {s0 : Anc} {s : Shared} {E : Value → Shared → Prop}
  {a : Addr} {cn : Str} {cs : Scope} {ccd : Value} {cl : List (Str × Addr)} {env : Env}

theorem cInt {i : Int} {k : Nat} {pos : Pos} {Q : Value → Shared → Prop} (S : At s0 h₀ L s m μ) (h : ∀ t s', At s0 h₀ L s' m μ → Q (.int i t) s') :
    wpAny (model P0 w) A (eval (.Constant (.int i) k pos) env) Q E s := wpAny_Constant_int (h _ _ (S.toks _))
theorem addI {x y : Int} {t u : Tok} {Q : Value → Shared → Prop} (S : At s0 h₀ L s m μ) (h : ∀ t s', At s0 h₀ L s' m μ → Q (.int (x + y) t) s') :
    wpAny (model P0 w) A (binaryOp .Add (.int x t) (.int y u)) Q E s := add_int (h _ _ (S.toks _))
theorem mulI {x y : Int} {t u : Tok} {Q : Value → Shared → Prop} (S : At s0 h₀ L s m μ) (hm : IntMulOk x y) (h : ∀ t s', At s0 h₀ L s' m μ → Q (.int (x * y) t) s') :
    wpAny (model P0 w) A (binaryOp .Mult (.int x t) (.int y u)) Q E s := mul_int (h _ _ (S.toks _)) hm
theorem modI {x y : Int} {t u : Tok} {Q : Value → Shared → Prop} (S : At s0 h₀ L s m μ) (hy : y ≠ 0) (h : ∀ t s', At s0 h₀ L s' m μ → Q (.int (x.fmod y) t) s') :
    wpAny (model P0 w) A (binaryOp .Mod (.int x t) (.int y u)) Q E s := mod_int' hy (h _ _ (S.toks _))
theorem fdivI {x y : Int} {t u : Tok} {Q : Value → Shared → Prop} (S : At s0 h₀ L s m μ) (hy : y ≠ 0) (hp : Builtin.divisionGoesByPylong x y = false) (h : ∀ t s', At s0 h₀ L s' m μ → Q (.int (x.fdiv y) t) s') :
    wpAny (model P0 w) A (binaryOp .FloorDiv (.int x t) (.int y u)) Q E s := floordiv_int hy (h _ _ (S.toks _)) (.inl hp)
theorem absI {x : Int} {t : Tok} {Q : Value → Shared → Prop} (S : At s0 h₀ L s m μ) (h : ∀ t s', At s0 h₀ L s' m μ → Q (.int (if x < 0 then -x else x) t) s') :
    wpAny (model P0 w) A (call (.builtin "abs") [.int x t]) Q E s := call_abs_int fun _ _ => h _ _ (S.toks _)
theorem lenL {l : Addr} {items : Array Value} {Q : Value → Shared → Prop} (S : At s0 h₀ L s m μ) (hl : s.heap.IsList l items) (hz : (items.size : Int) < 2 ^ 63) (h : ∀ t s', At s0 h₀ L s' m μ → Q (.int items.size t) s') :
    wpAny (model P0 w) A (call (.builtin "len") [.ref l]) Q E s := call_len_list hl hz (h _ _ (S.toks _))

theorem subL {value slice : PySem.Expr} {l : Addr} {items : Array Value} {k : Int} {u : Tok} (x : Value) {Q : Value → Shared → Prop} (hl : s.heap.IsList l items)
    (h0 : 0 ≤ k) (hfit : k < 2 ^ 63) (hx : items[k.toNat]? = some x) (h : Q x s)
    (hs : subscripted slice false (.ref l) (.int k u) = operate [.ref l, .int k u] (getItem (.ref l) (.int k u)) := by with_unfolding_all rfl) :
    wpAny (model P0 w) A (subscriptTail value slice (.ref l) (.int k u)) Q E s :=
  tail_any hl.typeIs slot_list_getitem.lookup (wpAny_getItem_list hl h0 hfit hx h) hs

theorem callB {x : Str} {np pos : Pos} (id : String) {e : PySem.Expr} {args : List PySem.Expr} {Q : Value → Shared → Prop} {env' : Env} {A' : Around}
    (S : At s0 h₀ L s m μ) (H : Here K p loose mean mg mb A' env' h₀ L) (hn : nsIn K mainGlobals x = some none) (hv : bootBuiltins x = some (.builtin id)) (hnn : x ≠ "__name__")
    (h : wpAny (model P0 w) A (spliced (backTo pos (starEach (e :: args) (envX cn cs L a ccd cl)))) (fun vs s₁ => wpAny (model P0 w) A (call (.builtin id) vs) Q E s₁) E s)
    (hk : cs.kind = .function := by rfl) (hx : (envX cn cs L a ccd cl).kindOf x = some .globalImplicit := by rfl) (hd : (x == ("__debug__" : Str)) = false := by decide)
    (he : starEach (e :: args) (envX cn cs L a ccd cl) = (false, eval e (envX cn cs L a ccd cl)) :: starEach args (envX cn cs L a ccd cl) := by rfl) (hp : (backTo pos (starEach args (envX cn cs L a ccd cl))).any (·.1) = false := by rfl) :
    wpAny (model P0 w) A (eval (.Call (.Name x np) (e :: args) [] pos) (envX cn cs L a ccd cl)) Q E s := by
  refine Call_ (nameX_B S.fr H.X (topRead_of H.T) hn hv hnn ?_ hk hx hd)
  rw [he] at h ⊢
  refine callWith_builtin (by show (false || (backTo pos (starEach args _)).any (·.1)) = false; rw [hp]; rfl) (evalArgs_plain ?_)
  exact h

theorem callF {x : Str} {np pos : Pos} {f : Addr} {e : PySem.Expr} {args : List PySem.Expr} {Q : Value → Shared → Prop} {env' : Env} {A' : Around}
    (S : At s0 h₀ L s m μ) (H : Here K p loose mean mg mb A' env' h₀ L) (hn : nsIn K mainGlobals x = some (some (.ref f))) (hk' : keepIn K (.ref f) = true)
    (h : wpAny (model P0 w) A (spliced (backTo pos (starEach (e :: args) (envX cn cs L a ccd cl)))) (fun vs s₁ => K.In s₁.heap ∧ wpAny (model P0 w) A (call (.ref f) vs) Q E s₁) E s)
    (hk : cs.kind = .function := by rfl) (hx : (envX cn cs L a ccd cl).kindOf x = some .globalImplicit := by rfl) (hd : (x == ("__debug__" : Str)) = false := by decide)
    (he : starEach (e :: args) (envX cn cs L a ccd cl) = (false, eval e (envX cn cs L a ccd cl)) :: starEach args (envX cn cs L a ccd cl) := by rfl) (hp : (backTo pos (starEach args (envX cn cs L a ccd cl))).any (·.1) = false := by rfl) :
    wpAny (model P0 w) A (eval (.Call (.Name x np) (e :: args) [] pos) (envX cn cs L a ccd cl)) Q E s :=
  Call_ (nameX_K S.fr H.X (topRead_of H.T) hn (callWith_K H.X hk' h he hp) hk hx hd)

theorem stL {x : Str} {v : Value} {Q : Unit → Shared → Prop} (S : At s0 h₀ L s m μ)
    (h : ∀ s', At s0 h₀ L s' (fun y => if y = x then some v else m y) μ → Q () s')
    (hk : cs.kind = .function := by rfl) (hx : (envX cn cs L a ccd cl).kindOf x = some .local := by rfl) : wpAny (model P0 w) A (storeName (envX cn cs L a ccd cl) x v) Q E s :=
  wpAny_storeName_local hx S.fr.ns (fun h' hn hs => h _ (S.heap (S.sit.loc hn hs) _)) (by show (cs.kind == .class || (cs.kind == .module && L != mainGlobals)) = false; rw [hk]; rfl)

theorem setL {l : Addr} {o : Obj} {items : List Value} {k : Int} {t : Tok} {v : Value} {Q : Unit → Shared → Prop} (S : At s0 h₀ L s m μ) (e : μ l = some o) (hl : LO items o)
    (h0 : 0 ≤ k) (hfit : k < 2 ^ 63) (hn : k < items.length)
    (h : ∀ s' o', At s0 h₀ L s' m (put μ l o') → LO (items.set k.toNat v) o' → Q () s') : wpAny (model P0 w) A (setItem (.ref l) (.int k t) v) Q E s := by
  refine wpAny_setItem_list (hl.isList (S.get e)) h0 hfit (by simpa using hn) fun h' hi hs => ?_
  obtain ⟨o', ho, hlo⟩ := LO.of (its := items.set k.toNat v) hi (by simp)
  exact h _ o' (S.heap (S.sit.upd e hs ho) s.toks) hlo
end
end Mine
end
section -- Next
open PySem PySem.W PySem.Calls PyProof.Rows
set_option maxRecDepth 100000
set_option linter.unusedVariables false
namespace Mine

structure FNext (K : Frag) : Prop where
  next : FnIn K 915 "_law_next" "_law_next" (topS 18) [] .none .none
  len : nsIn K mainGlobals "len" = some none
  abs : nsIn K mainGlobals "abs" = some none

def StM (μ : Mu) (st : Addr) (ns : List Int) : Prop :=
  ∃ scr o oscr ws i t1 hh t2, μ st = some o ∧ LO [.ref scr, .int i t1, .int hh t2] o ∧ μ scr = some oscr ∧ LO ws oscr ∧ IntsAre ws ns ∧ 0 ≤ i ∧ i ≤ ns.length ∧ 0 ≤ hh ∧ hh < 2147483647 ∧ scr ≠ st

section
variable {w : World} {K : Frag} {p : Program} {loose : List Str} {mean : ExcName → Option Value} {mg mb : Str → Option Value}
variable {A : Around} {env : Env} {h₀ : Heap} {L : Addr} {m : Str → Option Value} {μ : Mu} {s0 : Anc} {s : Shared} {R : Result → Shared → Prop}

theorem next_spec (FK : FNext K) (H : Here K p loose mean mg mb A env h₀ L) (S : At s0 h₀ L s m μ) {st : Addr} {ns : List Int} (Z : StM μ st ns) (hns : ns.length ≤ 60) {many : Int} {tm : Tok} (hm : 0 < many)
    (hroom : A.depth < recursionLimit)
    (post : ∀ s' v t o', 0 ≤ v → v < many → At s0 h₀ L s' m (put μ st o') → StM (put μ st o') st ns → R (.ok (.ret (.int v t))) s') :
    codeAny (model P0 w) A (.call (.ref 915) ⟨[.ref st, .int many tm], []⟩) R s := by
  obtain ⟨oc, od, doc, pm, an, cdv, ct, osl, ho, hcd⟩ := FK.next
  refine call_def (binds := [("state", .ref st), ("many", .int many tm)]) H S ho hcd hroom (BindsTo.of_eq (by with_unfolding_all rfl)) (locs (by with_unfolding_all rfl)) (fun g L' s₁ H' S1 _ => ?_) (by decide)
  obtain ⟨scr, o, oscr, ws, i, t1, hh, t2, hst, hlo, hscr, hlos, hints, h0, hle, hh0, hh1, hne⟩ := Z
  have hlen : ws.toArray.size = ns.length := by simp [hints.length]
  refine wpAny_execs_cons (wpAny_If (wpAny_isTrue_Compare1 (Subscript_ (nameX_L S1.fr (by rfl) (cInt S1 fun _ s2 S2 => ?_))) (by rfl)))
  have hl := hlo.isList (S2.get hst)
  have hl2 := hlos.isList (S2.get hscr)
  refine subL (.int i t1) hl (by decide) (by decide) rfl ?_
  refine callB "len" S2 H' FK.len (by decide +kernel) (by decide) (wpAny_items_cons (Subscript_ (nameX_L S2.fr (by rfl) (cInt S2 fun _ s3 S3 => ?_))))
  refine subL (.ref scr) (hlo.isList (S3.get hst)) (by decide) (by decide) rfl (wpAny_items_nil ?_)
  refine lenL S3 (hlos.isList (S3.get hscr)) (by rw [hlen]; omega) fun _ s4 S4 => ?_
  rw [hlen]
  refine lt_int (wpAny_truthy_bool ?_)
  clear hl hl2
  by_cases hlt : i < ns.length
  · rw [if_pos (decide_eq_true hlt)]
    obtain ⟨tx, hx⟩ := hints.get i.toNat ns[i.toNat] (by simp)
    refine wpAny_execs_cons (wpAny_Assign_Name (callB "abs" S4 H' FK.abs (by decide +kernel) (by decide) (wpAny_items_cons (Subscript_ ?_))))
    refine Subscript_ (nameX_L S4.fr (by rfl) (cInt S4 fun _ s5 S5 => subL (.ref scr) (hlo.isList (S5.get hst)) (by decide) (by decide) rfl ?_))
    refine Subscript_ (nameX_L S5.fr (by rfl) (cInt S5 fun _ s6 S6 => subL (.int i t1) (hlo.isList (S6.get hst)) (by decide) (by decide) rfl ?_))
    refine subL (.int ns[i.toNat] tx) (hlos.isList (S6.get hscr)) h0 (by omega) (by simpa using hx) (wpAny_items_nil ?_)
    refine absI S6 fun _ s7 S7 => stL S7 fun s8 S8 => ?_
    generalize (if ns[i.toNat] < 0 then -ns[i.toNat] else ns[i.toNat]) = fd at S8
    refine wpAny_execs_cons (wpAny_Assign_Subscript (wpAny_BinOp (Subscript_ (nameX_L S8.fr (by rfl) (cInt S8 fun _ s9 S9 => subL (.int i t1) (hlo.isList (S9.get hst)) (by decide) (by decide) rfl ?_)))) (by rfl))
    refine cInt S9 fun _ s10 S10 => addI S10 fun _ s11 S11 => nameX_L S11.fr (by rfl) (cInt S11 fun _ s12 S12 => ?_)
    refine setL S12 hst hlo (by decide) (by decide) (show (1 : Int) < 3 by decide) fun s13 o13 S13 hlo3 => ?_
    refine wpAny_execs_cons (wpAny_Assign_Subscript (wpAny_BinOp (wpAny_BinOp (wpAny_BinOp (Subscript_ (nameX_L S13.fr (by rfl) (cInt S13 fun _ s14 S14 => subL (.int hh t2) (hlo3.isList (S14.get put_self)) (by decide) (by decide) rfl ?_)))))) (by rfl))
    refine cInt S14 fun _ s15 S15 => mulI S15 (IntMulOk.of_left (intBits_le_64 (by omega) (by omega))) fun _ s16 S16 => nameX_L S16.fr (by rfl) (addI S16 fun _ s17 S17 => cInt S17 fun _ s18 S18 => modI S18 (by decide) fun _ s19 S19 => ?_)
    refine nameX_L S19.fr (by rfl) (cInt S19 fun _ s20 S20 => setL S20 put_self hlo3 (by decide) (by decide) (show (2 : Int) < 3 by decide) fun s21 o21 S21 hlo4 => ?_)
    refine wpAny_execs_cons (wpAny_Return_some (wpAny_BinOp (nameX_L S21.fr (by rfl) (nameX_L S21.fr (by rfl) (modI S21 (by omega) fun _ s22 S22 => ?_)))))
    rw [put_put] at S22
    refine Back.intro S22 fun k => post _ _ _ o21 (PySem.W.fmod_lo _ hm) (PySem.W.fmod_hi _ hm) k ?_
    exact ⟨scr, o21, oscr, ws, i + 1, _, _, _, put_self, hlo4, (put_ne hne).trans hscr, hlos, hints, by omega, by omega, PySem.W.fmod_lo _ (by decide), PySem.W.fmod_hi _ (by decide), hne⟩
  · rw [if_neg (by simpa using hlt)]
    refine wpAny_execs_nil ?_
    refine wpAny_execs_cons (wpAny_Assign_Subscript (wpAny_BinOp (wpAny_BinOp (wpAny_BinOp (Subscript_ (nameX_L S4.fr (by rfl) (cInt S4 fun _ s14 S14 => subL (.int hh t2) (hlo.isList (S14.get hst)) (by decide) (by decide) rfl ?_)))))) (by rfl))
    refine cInt S14 fun _ s15 S15 => mulI S15 (IntMulOk.of_left (intBits_le_64 (by omega) (by omega))) fun _ s16 S16 => cInt S16 fun _ s17 S17 => addI S17 fun _ s18 S18 => cInt S18 fun _ s19 S19 => modI S19 (by decide) fun _ s20 S20 => ?_
    refine nameX_L S20.fr (by rfl) (cInt S20 fun _ s21 S21 => setL S21 hst hlo (by decide) (by decide) (show (2 : Int) < 3 by decide) fun s22 o22 S22 hlo4 => ?_)
    refine wpAny_execs_cons (wpAny_Return_some (wpAny_BinOp (wpAny_BinOp (Subscript_ (nameX_L S22.fr (by rfl) (cInt S22 fun _ s23 S23 => subL (.int _ _) (hlo4.isList (S23.get put_self)) (by decide) (by decide) rfl ?_))))))
    have b0 := PySem.W.fmod_lo (hh * 48271 + 11) (n := 2147483647) (by decide)
    have b1 := PySem.W.fmod_hi (hh * 48271 + 11) (n := 2147483647) (by decide)
    refine cInt S23 fun _ s24 S24 => fdivI S24 (by decide) (PyProof.noPylong_small (by omega)) fun _ s25 S25 => nameX_L S25.fr (by rfl) (modI S25 (by omega) fun _ s26 S26 => ?_)
    refine Back.intro S26 fun k => post _ _ _ o22 (PySem.W.fmod_lo _ hm) (PySem.W.fmod_hi _ hm) k ?_
    exact ⟨scr, o22, oscr, ws, i, _, _, _, put_self, hlo4, (put_ne hne).trans hscr, hlos, hints, by omega, by omega, b0, b1, hne⟩
end
end Mine
end
section -- Draw
open PySem PySem.W PySem.Calls PyProof.Rows
set_option maxRecDepth 100000
set_option linter.unusedVariables false
namespace Mine

structure PE where
  kn : List Int
  ks : List Int
  kp : List Int
  ord : Int → List Int
  cw : Int → Int → Int
  ccw : Int → Int → Int

def set1 {α : Type} (f : Int → α) (v : Int) (x : α) : Int → α := fun u => if u = v then x else f u
def set2 {α : Type} (f : Int → Int → α) (v k : Int) (x : α) : Int → Int → α := fun u j => if u = v ∧ j = k then x else f u j
@[simp] theorem set1_self {α : Type} (f : Int → α) (v : Int) (x : α) : set1 f v x v = x := by simp [set1]
theorem set1_ne {α : Type} {f : Int → α} {v u : Int} {x : α} (h : u ≠ v) : set1 f v x u = f u := by simp [set1, h]
@[simp] theorem set2_self {α : Type} (f : Int → Int → α) (v k : Int) (x : α) : set2 f v k x v k = x := by simp [set2]
theorem set2_ne {α : Type} {f : Int → Int → α} {v k u j : Int} {x : α} (h : ¬ (u = v ∧ j = k)) : set2 f v k x u j = f u j := by simp [set2, h]

inductive Role where
  | x | dd | nd | sd | pd
  | S (v : Int) | P (v : Int) | D (v k : Int)
  deriving DecidableEq

abbrev Adr := Role → Addr
def setA (ad : Adr) (r : Role) (a : Addr) : Adr := fun q => if q = r then a else ad q
@[simp] theorem setA_self (ad : Adr) (r : Role) (a : Addr) : setA ad r a r = a := by simp [setA]
theorem setA_ne {ad : Adr} {r q : Role} {a : Addr} (h : q ≠ r) : setA ad r a q = ad q := by simp [setA, h]

def Live (G : PE) : Role → Prop
  | .S v => v ∈ G.ks
  | .P v => v ∈ G.kp
  | .D v k => k ∈ G.ord v
  | _ => True

abbrev ik (w : World) := intKind P0 w
abbrev sk (w : World) := strKind P0 w

def meths : List Str := ["add_half_edge", "add_half_edge_ccw", "add_half_edge_cw", "add_half_edge_first", "get_data", "neighbors_cw_order", "has_edge", "add_nodes_from", "adjlist_inner_dict_factory", "node_attr_dict_factory", "edge_attr_dict_factory"]
def DDo (nd sd pd : Addr) (o : Obj) : Prop := ∃ es n, o = dictOf es n ∧ getL "_node" es = some (some (.ref nd)) ∧ getL "_adj" es = some (some (.ref sd)) ∧ getL "_succ" es = some (some (.ref sd)) ∧
  getL "_pred" es = some (some (.ref pd)) ∧ ∀ nm ∈ meths, getL nm es = some none

def DatO (w : World) (c d : Int) (o : Obj) : Prop := ∃ kvs t t', o.IsDictOf (sk w) kvs ∧ valueAt kvs ("cw" : Str) = some (.int c t) ∧ valueAt kvs ("ccw" : Str) = some (.int d t') ∧ kvs.length ≤ 2

def Cont (w : World) (ad : Adr) (G : PE) : Role → Obj → Prop
  | .x, o => o = instObj 906 (ad .dd)
  | .dd, o => DDo (ad .nd) (ad .sd) (ad .pd) o
  | .nd, o => ∃ kvs, o.IsDictOf (ik w) kvs ∧ kvs.map (·.1) = G.kn
  | .sd, o => o.IsDictOf (ik w) (G.ks.map fun v => (v, Value.ref (ad (.S v))))
  | .pd, o => o.IsDictOf (ik w) (G.kp.map fun v => (v, Value.ref (ad (.P v))))
  | .S v, o => o.IsDictOf (ik w) ((G.ord v).map fun k => (k, Value.ref (ad (.D v k))))
  | .P v, o => ∃ kvs, o.IsDictOf (ik w) kvs ∧ ∀ k ∈ kvs.map (·.1), 0 ≤ k ∧ k < 5
  | .D v k, o => DatO w (G.cw v k) (G.ccw v k) o

structure PE.Ok (G : PE) : Prop where
  kn : ∀ v ∈ G.kn, 0 ≤ v ∧ v < 5
  ks : ∀ v ∈ G.ks, 0 ≤ v ∧ v < 5
  kp : ∀ v ∈ G.kp, 0 ≤ v ∧ v < 5
  ord : ∀ v, ∀ k ∈ G.ord v, 0 ≤ k ∧ k < 5
  out : ∀ v, v ∉ G.ks → G.ord v = []

structure Dr (w : World) (μ : Mu) (ad : Adr) (G : PE) : Prop where
  at_ : ∀ r, Live G r → ∃ o, μ (ad r) = some o ∧ Cont w ad G r o
  inj : ∀ r r', Live G r → Live G r' → ad r = ad r' → r = r'
  ok : G.Ok

def Fp (ad : Adr) (G : PE) (a : Addr) : Prop := ∃ r, Live G r ∧ ad r = a

section
variable {w : World} {μ μ' : Mu} {ad ad' : Adr} {G G' : PE}
theorem Dr.mono (D : Dr w μ ad G) (h : ∀ r, Live G r → ∀ o, μ (ad r) = some o → μ' (ad r) = some o) : Dr w μ' ad G :=
  ⟨fun r l => let ⟨o, e, c⟩ := D.at_ r l; ⟨o, h r l o e, c⟩, D.inj, D.ok⟩
theorem Dr.off (D : Dr w μ ad G) {a : Addr} {o : Obj} (h : ¬ Fp ad G a) : Dr w (put μ a o) ad G :=
  D.mono fun r l x e => (put_ne fun q => h ⟨r, l, q⟩).trans e
theorem Dr.fresh (D : Dr w μ ad G) {a : Addr} (h : μ a = none) : ¬ Fp ad G a := by
  rintro ⟨r, l, rfl⟩
  obtain ⟨o, e, _⟩ := D.at_ r l
  rw [h] at e; cases e
theorem Dr.new (D : Dr w μ ad G) {a : Addr} {o : Obj} (h : μ a = none) : Dr w (put μ a o) ad G := D.off (D.fresh h)

theorem isDict_cls {K : Type} [DecidableEq K] {knd : KeyKind P0 w K} {o : Obj} {kvs : List (K × Value)} (h : o.IsDictOf knd kvs) : o.cls = .type "dict" := by
  obtain ⟨es, ep, hx⟩ := h
  exact hx.1.1
theorem Cont.notList {r : Role} {o : Obj} (h : Cont w ad G r o) : o.cls ≠ .type "list" := by
  intro e
  cases r with
  | x => rw [show o = instObj 906 (ad .dd) from h] at e; cases e
  | dd => obtain ⟨es, n, rfl, _⟩ := h; simp at e
  | nd => obtain ⟨kvs, h, _⟩ := h; rw [isDict_cls h] at e; simp at e
  | sd => rw [isDict_cls (show o.IsDictOf _ _ from h)] at e; simp at e
  | pd => rw [isDict_cls (show o.IsDictOf _ _ from h)] at e; simp at e
  | S v => rw [isDict_cls (show o.IsDictOf _ _ from h)] at e; simp at e
  | P v => obtain ⟨kvs, h, _⟩ := h; rw [isDict_cls h] at e; simp at e
  | D v k => obtain ⟨kvs, _, _, h, _⟩ := h; rw [isDict_cls h] at e; simp at e
theorem Dr.list_off (D : Dr w μ ad G) {a : Addr} {o : Obj} (e : μ a = some o) (hc : o.cls = .type "list") : ¬ Fp ad G a := by
  rintro ⟨r, l, rfl⟩
  obtain ⟨o', e', c⟩ := D.at_ r l
  rw [e] at e'; cases e'
  exact c.notList hc

theorem Dr.step (D : Dr w μ ad G) (r : Role) (hr : Live G r) {o' : Obj} (ok : G'.Ok) (hl : ∀ q, Live G' q → Live G q) (hc : Cont w ad G' r o')
    (hs : ∀ q, q ≠ r → Live G' q → ∀ o, Cont w ad G q o → Cont w ad G' q o) : Dr w (put μ (ad r) o') ad G' := by
  refine ⟨fun q l => ?_, fun q q' l l' e => D.inj q q' (hl q l) (hl q' l') e, ok⟩
  by_cases e : q = r
  · subst e; exact ⟨o', put_self, hc⟩
  · obtain ⟨o, ho, c⟩ := D.at_ q (hl q l)
    exact ⟨o, (put_ne fun z => e (D.inj q r (hl q l) hr z)).trans ho, hs q e l o c⟩
theorem Dr.grow (D : Dr w μ ad G) (r n : Role) (hr : Live G r) (hrn : r ≠ n) {a : Addr} {on o' : Obj} (ha : ¬ Fp ad G a) (hon : μ a = some on) (hn : ¬ Live G n) (ok : G'.Ok)
    (hl : ∀ q, Live G' q → q = n ∨ Live G q) (hc : Cont w (setA ad n a) G' r o') (hcn : Cont w (setA ad n a) G' n on)
    (hs : ∀ q, q ≠ r → q ≠ n → Live G' q → ∀ o, Cont w ad G q o → Cont w (setA ad n a) G' q o) : Dr w (put μ (ad r) o') (setA ad n a) G' := by
  have har : a ≠ ad r := fun z => ha ⟨r, hr, z.symm⟩
  refine ⟨fun q l => ?_, fun q q' l l' e => ?_, ok⟩
  · by_cases eq : q = n
    · subst eq; rw [setA_self]; exact ⟨on, (put_ne har).trans hon, hcn⟩
    · rw [setA_ne eq]
      have lq := (hl q l).resolve_left eq
      by_cases er : q = r
      · subst er; exact ⟨o', put_self, hc⟩
      · obtain ⟨o, ho, c⟩ := D.at_ q lq
        exact ⟨o, (put_ne fun z => er (D.inj q r lq hr z)).trans ho, hs q er eq l o c⟩
  · by_cases eq : q = n
    · by_cases eq' : q' = n
      · rw [eq, eq']
      · subst eq
        rw [setA_self, setA_ne eq'] at e
        exact absurd ⟨q', (hl q' l').resolve_left eq', e.symm⟩ ha
    · by_cases eq' : q' = n
      · subst eq'
        rw [setA_self, setA_ne eq] at e
        exact absurd ⟨q, (hl q l).resolve_left eq, e⟩ ha
      · rw [setA_ne eq, setA_ne eq'] at e
        exact D.inj q q' ((hl q l).resolve_left eq) ((hl q' l').resolve_left eq') e
end
end Mine
end
section -- DRules
open PySem PySem.W PySem.Calls PyProof.Rows
set_option maxRecDepth 100000
set_option linter.unusedVariables false
namespace Mine

def EmptyO (w : World) (o : Obj) : Prop := o.cls = .type "dict" ∧ ∀ {KK : Type} [DecidableEq KK] (knd : KeyKind P0 w KK), o.IsDictOf knd []

theorem Fr.grow {h₀ h h' : Heap} {L : Addr} {m : Str → Option Value} (F : Fr h₀ L h m) (hk : ∀ b o, h.get? b = some o → h'.get? b = some o) : Fr h₀ L h' m := by
  obtain ⟨⟨oL, a1, a2, hL, a3⟩, k, ab⟩ := F
  exact ⟨⟨oL, a1, a2, hk _ _ hL, a3⟩, fun b o e => hk _ _ (k b o e), ab⟩
theorem Sit.grow {h₀ h h' : Heap} {L : Addr} {m : Str → Option Value} {μ : Mu} (S : Sit h₀ L h m μ) (hk : ∀ b o, h.get? b = some o → h'.get? b = some o) : Sit h₀ L h' m μ :=
  ⟨Fr.grow S.fr hk, fun a o e => ⟨hk _ _ (S.get e), (S.led a o e).2⟩, S.low, S.big⟩
theorem Sit.grow1 {h₀ h h' : Heap} {L a : Addr} {o : Obj} {m : Str → Option Value} {μ : Mu} (S : Sit h₀ L h m μ) (hk : ∀ b o, h.get? b = some o → h'.get? b = some o) (ha : h.objs.size ≤ a) (ho : h'.get? a = some o) :
    Sit h₀ L h' m (put μ a o) := by
  have S' := S.grow hk
  refine ⟨S'.fr, fun b x e => ?_, fun b x e => ?_, S.big⟩
  · by_cases q : b = a
    · subst q; rw [put_self] at e; cases e
      refine ⟨ho, Nat.ne_of_gt (Nat.lt_of_lt_of_le S.L_lt ha), ?_⟩
      cases z : h₀.get? b with
      | none => rfl
      | some y => exact absurd (Heap.lt_size (S.keep z)) (Nat.not_lt.mpr ha)
    · rw [put_ne q] at e; exact S'.led b x e
  · by_cases q : b = a
    · subst q; exact beq_eq_false_iff_ne.mpr (Nat.ne_of_gt (Nat.lt_trans S.big (Nat.lt_of_lt_of_le S.L_lt ha)))
    · rw [put_ne q] at e; exact S.low b x e
theorem Sit.none_of_ge {h₀ h : Heap} {L a : Addr} {m : Str → Option Value} {μ : Mu} (S : Sit h₀ L h m μ) (ha : h.objs.size ≤ a) : μ a = none := by
  cases q : μ a with
  | none => rfl
  | some o => exact absurd (S.lt q) (Nat.not_lt.mpr ha)

section
variable {w : World} {K : Frag} {p : Program} {loose : List Str} {mean : ExcName → Option Value} {mg mb : Str → Option Value}
variable {A : Around} {h₀ : Heap} {L : Addr} {m : Str → Option Value} {μ : Mu} {s0 : Anc} {s : Shared} {E : Value → Shared → Prop}
  {a d : Addr} {cn : Str} {cs : Scope} {ccd : Value} {cl : List (Str × Addr)} {env : Env} {o : Obj}
  {KK : Type} [DecidableEq KK] {knd : KeyKind P0 w KK} {kvs : List (KK × Value)} {k : KK} {key v dflt : Value}

theorem At.dict (S : At s0 h₀ L s m μ) (e : μ d = some o) (hd : o.IsDictOf knd kvs) : s.heap.DictOf knd d kvs := Heap.dictOf_iff.mpr ⟨o, S.get e, hd⟩
theorem At.low (S : At s0 h₀ L s m μ) (e : μ d = some o) : (d == sysModules) = false := S.sit.low d o e

theorem dItem {value slice : PySem.Expr} {Q : Value → Shared → Prop} (S : At s0 h₀ L s m μ) (e : μ d = some o) (hd : o.IsDictOf knd kvs) (hkey : knd.is k key = true) (hl : valueAt kvs k = some v)
    (h : ∀ s', At s0 h₀ L s' m μ → Q v s') (hs : subscripted slice false (.ref d) key = operate [.ref d, key] (getItem (.ref d) key) := by with_unfolding_all rfl) :
    wpAny (model P0 w) A (subscriptTail value slice (.ref d) key) Q E s :=
  have hD := S.dict e hd
  tail_any hD.typeIs slot_dict_getitem.lookup (wpAny_getItem_of hkey hD.mapOf hl (h _ (S.toks _))) hs
theorem dIn {Q : Value → Shared → Prop} (S : At s0 h₀ L s m μ) (e : μ d = some o) (hd : o.IsDictOf knd kvs) (hkey : knd.is k key = true) (h : ∀ s', At s0 h₀ L s' m μ → Q (.bool (valueAt kvs k).isSome) s') :
    wpAny (model P0 w) A (compareOp .In key (.ref d)) Q E s := wpAny_in_of hkey (S.low e) (S.dict e hd).mapOf (h _ (S.toks _))
theorem dNotIn {Q : Value → Shared → Prop} (S : At s0 h₀ L s m μ) (e : μ d = some o) (hd : o.IsDictOf knd kvs) (hkey : knd.is k key = true) (h : ∀ s', At s0 h₀ L s' m μ → Q (.bool (!(valueAt kvs k).isSome)) s') :
    wpAny (model P0 w) A (compareOp .NotIn key (.ref d)) Q E s := wpAny_notIn_of hkey (S.low e) (S.dict e hd).mapOf (h _ (S.toks _))
theorem dGetM {pl : Sem Bool} {Q : Value × List Value → Shared → Prop} (S : At s0 h₀ L s m μ) (e : μ d = some o) (hd : o.IsDictOf knd kvs) (h : Q (.builtin "dict.get", [.ref d]) s) : wpAny (model P0 w) A (getMethod (.ref d) "get" pl) Q E s :=
  have hD := S.dict e hd
  getMethod_builtin hD.typeIs PySem.F.plainAttrs_dict PySem.F.slot_dict_get PySem.F.type_dict_get hD.mapOf.noDict h
theorem dGet1 {Q : Value → Shared → Prop} (S : At s0 h₀ L s m μ) (e : μ d = some o) (hd : o.IsDictOf knd kvs) (hkey : knd.is k key = true) (h : ∀ s', At s0 h₀ L s' m μ → Q ((valueAt kvs k).getD .none) s') :
    wpAny (model P0 w) A (call (.builtin "dict.get") [.ref d, key]) Q E s :=
  have hD := S.dict e hd
  call_meetsIn PySem.F.slot_dict_get hD.typeIs PySem.F.entry_dict_get (PySem.F.args_dict_get_2 _ _) (meets_dict_get knd d hkey (S.low e)) ⟨_, hD.mapOf, h _ (S.toks _)⟩
theorem dGet2 {Q : Value → Shared → Prop} (S : At s0 h₀ L s m μ) (e : μ d = some o) (hd : o.IsDictOf knd kvs) (hkey : knd.is k key = true) (h : ∀ s', At s0 h₀ L s' m μ → Q ((valueAt kvs k).getD dflt) s') :
    wpAny (model P0 w) A (call (.builtin "dict.get") [.ref d, key, dflt]) Q E s :=
  have hD := S.dict e hd
  call_meetsIn PySem.F.slot_dict_get hD.typeIs PySem.F.entry_dict_get (PySem.F.args_dict_get_3 _ _ _) (meets_dict_get_default knd d hkey (S.low e) dflt) ⟨_, hD.mapOf, h _ (S.toks _)⟩
theorem dSet {Q : Unit → Shared → Prop} (S : At s0 h₀ L s m μ) (e : μ d = some o) (hd : o.IsDictOf knd kvs) (hkey : knd.is k key = true) (hsz : kvs.length ≤ sizeLine)
    (h : ∀ s' o', At s0 h₀ L s' m (put μ d o') → o'.IsDictOf knd (stored kvs k v) → Q () s') : wpAny (model P0 w) A (setItem (.ref d) key v) Q E s := by
  refine wpAny_setItem_pairs (hsz := hsz) hkey (S.dict e hd) fun h' hmm hs => ?_
  obtain ⟨o', ho', hd'⟩ := Heap.dictOf_iff.mp hmm
  exact h _ o' (S.heap (S.sit.upd e hs ho') _) hd'
theorem dPopM {pl : Sem Bool} {Q : Value × List Value → Shared → Prop} (S : At s0 h₀ L s m μ) (e : μ d = some o) (hd : o.IsDictOf knd kvs) (h : Q (.builtin "dict.pop", [.ref d]) s) : wpAny (model P0 w) A (getMethod (.ref d) "pop" pl) Q E s :=
  have hD := S.dict e hd
  getMethod_builtin hD.typeIs PySem.F.plainAttrs_dict PySem.F.slot_dict_pop PySem.F.type_dict_pop hD.mapOf.noDict h
theorem dPop {Q : Value → Shared → Prop} (S : At s0 h₀ L s m μ) (e : μ d = some o) (hd : o.IsDictOf knd kvs) (hkey : knd.is k key = true) (hpart : (keyPart key).isSome = true) (hsz : kvs.length ≤ sizeLine) (hl : valueAt kvs k = some v)
    (h : ∀ s' o', At s0 h₀ L s' m (put μ d o') → o'.IsDictOf knd (without kvs k) → Q v s') : wpAny (model P0 w) A (call (.builtin "dict.pop") [.ref d, key]) Q E s :=
  have hD := S.dict e hd
  call_meetsIn PySem.F.slot_dict_pop hD.typeIs PySem.F.entry_dict_pop (PySem.F.args_dict_pop_2 _ _) (meets_dict_pop_there knd d hkey [] (.inl rfl) hpart) ⟨kvs, v, hD, hsz, hl, fun h' hm hs => by
    obtain ⟨o', ho', hd'⟩ := Heap.dictOf_iff.mp hm
    exact h _ o' (S.heap (S.sit.upd e hs ho') _) hd'⟩
theorem dTruth {Q : Bool → Shared → Prop} (S : At s0 h₀ L s m μ) (e : μ d = some o) (hd : o.IsDictOf knd kvs) (hfit : kvs.length ≤ sizeLine) (h : ∀ s', At s0 h₀ L s' m μ → Q (!kvs.isEmpty) s') :
    wpAny (model P0 w) A (truthy (.ref d)) Q E s :=
  wpAny_truthy_dict (S.low e) (S.dict e hd) (by rw [sizeLine_eq] at hfit; omega) (h _ (S.toks _))
theorem dNew {pos : Pos} {Q : Value → Shared → Prop} (S : At s0 h₀ L s m μ) (h : ∀ d o s', μ d = none → At s0 h₀ L s' m (put μ d o) → EmptyO w o → Q (.ref d) s') :
    wpAny (model P0 w) A (eval (.Dict [] [] pos) env) Q E s :=
  wpAny_Dict_empty (h _ _ _ S.sit.new_none (S.heap (S.sit.push _) s.toks) ⟨rfl, fun knd => ⟨#[], 0, ⟨rfl, rfl, rfl⟩, rfl, fun _ he => by simp at he, .nil, List.nodup_nil⟩⟩)
theorem dList {Q : Value → Shared → Prop} (S : At s0 h₀ L s m μ) (hh : A.handled = none) (e : μ d = some o) (hd : o.IsDictOf knd kvs) (hsz : kvs.length ≤ sizeLine)
    (h : ∀ (l : Addr) (ol : Obj) (vs : List Value) (s' : Shared), μ l = none → At s0 h₀ L s' m (put μ l ol) → LO vs ol → vs.length = kvs.length → (∀ (i : Nat) (v : Value), vs[i]? = some v → ∃ k x, kvs[i]? = some (k, x) ∧ knd.is k v = true) → Q (.ref l) s') :
    wpAny (model P0 w) A (call (.type "list") [.ref d]) Q E s := by
  obtain ⟨ep, hD⟩ := (S.dict e hd).dictAt
  refine kdl_call (kdl_dict (S.low e)) hh hD hsz fun h' tk acc c hk hg hi => ?_
  refine h s.heap.objs.size _ acc.toList _ S.sit.new_none (S.heap (S.sit.grow1 hk (Nat.le_refl _) hg) tk) ⟨rfl, c, by simp⟩ (by rw [Array.length_toList]; exact hi.1) fun i v hv => hi.2 i v (by rw [← Array.getElem?_toList]; exact hv)
end
end Mine
end
section -- PRules
open PySem PySem.W PySem.Calls PyProof.Rows
set_option maxRecDepth 100000
set_option linter.unusedVariables false
namespace Mine

def MethIn (K : Frag) (nm : Str) (f : Addr) : Prop := findIn K (.ref 906) nm = some (some (.ref f)) ∧ isFn K (.ref f) = true ∧ keepIn K (.ref f) = true
structure FCls (K : Frag) : Prop where
  plain : plainGet K 906 "" = true
  hasDict : hasDictIn K 906 = true
  succ : findIn K (.ref 906) "_succ" = some none
  adj : findIn K (.ref 906) "_adj" = some none
  pred : findIn K (.ref 906) "_pred" = some none
  node : findIn K (.ref 906) "_node" = some none
  half : MethIn K "add_half_edge" 825

section
variable {w : World} {K : Frag} {p : Program} {loose : List Str} {mean : ExcName → Option Value} {mg mb : Str → Option Value}
variable {A A' : Around} {h₀ : Heap} {L : Addr} {m : Str → Option Value} {μ : Mu} {s0 : Anc} {s : Shared} {E : Value → Shared → Prop}
  {a d : Addr} {cn : Str} {cs : Scope} {ccd : Value} {cl : List (Str × Addr)} {env env' : Env} {o : Obj} {ad : Adr} {G : PE} {x nm : Str} {v : Value} {np pos apos : Pos}

theorem Dr.inst (D : Dr w μ ad G) (S : At s0 h₀ L s m μ) : ∃ es n, DDo (ad .nd) (ad .sd) (ad .pd) (dictOf es n) ∧ InstAt s.heap (ad .x) (instObj 906 (ad .dd)) 906 (some (dictOf es n)) := by
  obtain ⟨ox, ex, cx⟩ := D.at_ .x trivial
  obtain ⟨od, ed, cd⟩ := D.at_ .dd trivial
  rw [show ox = instObj 906 (ad .dd) from cx] at ex
  obtain ⟨es, n, rfl, r⟩ := id cd
  exact ⟨es, n, cd, S.get ex, rfl, rfl, S.get ed⟩

theorem attrX {Q : Value → Shared → Prop} (S : At s0 h₀ L s m μ) (H : Here K p loose mean mg mb A' env' h₀ L) (FC : FCls K) (D : Dr w μ ad G) (hm : m x = some (.ref (ad .x))) (hf : findIn K (.ref 906) nm = some none)
    (hv : ∀ es n, DDo (ad .nd) (ad .sd) (ad .pd) (dictOf es n) → getL nm es = some (some v)) (hh : handedIn v = true) (h : ∀ s', At s0 h₀ L s' m μ → Q v s')
    (hk : cs.kind = .function := by rfl) (hx : (envX cn cs L a ccd cl).kindOf x = some .local := by rfl) (hd : (x == ("__debug__" : Str)) = false := by decide) :
    wpAny (model P0 w) A (eval (.Attribute (.Name x np) nm pos) (envX cn cs L a ccd cl)) Q E s := by
  refine Attribute_name (nameX_L S.fr hm ?_ hk hx hd)
  obtain ⟨es, n, hD, I⟩ := D.inst S
  exact get_own S.fr H.X I FC.plain FC.hasDict hf rfl (hv es n hD) hh (h _ (S.toks _))

theorem methX {f : Addr} {args : List PySem.Expr} {pl : Sem Bool} {Q : Value → Shared → Prop} (S : At s0 h₀ L s m μ) (H : Here K p loose mean mg mb A' env' h₀ L) (FC : FCls K) (D : Dr w μ ad G) (hm : m x = some (.ref (ad .x)))
    (M : MethIn K nm f) (hnm : nm ∈ meths)
    (h : wpAny (model P0 w) A (callWith pos (.ref f) [.ref (ad .x)] (backTo pos (starEach args (envX cn cs L a ccd cl))) []) Q E s)
    (hk : cs.kind = .function := by rfl) (hx : (envX cn cs L a ccd cl).kindOf x = some .local := by rfl) (hd : (x == ("__debug__" : Str)) = false := by decide)
    (he : eval (.Call (.Attribute (.Name x np) nm apos) args [] pos) (envX cn cs L a ccd cl) = (do
      let ov ← eval (.Name x np) (envX cn cs L a ccd cl)
      standAt apos.atName
      let (f, first) ← holding [ov] (getMethod ov nm pl)
      callWith pos f first (backTo pos (starEach args (envX cn cs L a ccd cl))) []) := by rfl) :
    wpAny (model P0 w) A (eval (.Call (.Attribute (.Name x np) nm apos) args [] pos) (envX cn cs L a ccd cl)) Q E s := by
  refine MethodCall_ (pl := pl) (nameX_L S.fr hm ?_ hk hx hd) he
  obtain ⟨es, n, hD, I⟩ := D.inst S
  refine method_inst S.fr H.X I FC.plain M.1 M.2.1 ?_ h
  obtain ⟨es', n', e, _, _, _, _, hno⟩ := hD
  have : es = es' := by
    have h1 : Data.dict es.toArray n = Data.dict es'.toArray n' := congrArg Obj.data e
    injection h1 with h1 _
    simpa using congrArg Array.toList h1
  subst this
  exact hno nm hnm
theorem methX0 {f : Addr} {pl : Sem Bool} {Q : Value → Shared → Prop} (S : At s0 h₀ L s m μ) (H : Here K p loose mean mg mb A' env' h₀ L) (FC : FCls K) (D : Dr w μ ad G) (hm : m x = some (.ref (ad .x)))
    (M : MethIn K nm f) (hnm : nm ∈ meths)
    (h : codeAny (model P0 w) A (.call (.ref f) ⟨[.ref (ad .x)], []⟩) (fun r s' => match r with | .ok (.ret v) => Q v s' | .ok _ => False | .error e => E e s') s)
    (hk : cs.kind = .function := by rfl) (hx : (envX cn cs L a ccd cl).kindOf x = some .local := by rfl) (hd : (x == ("__debug__" : Str)) = false := by decide)
    (he : eval (.Call (.Attribute (.Name x np) nm apos) [] [] pos) (envX cn cs L a ccd cl) = (do
      let ov ← eval (.Name x np) (envX cn cs L a ccd cl)
      standAt apos.atName
      let (f, first) ← holding [ov] (getMethod ov nm pl)
      callWith pos f first (backTo pos (starEach [] (envX cn cs L a ccd cl))) []) := by rfl) :
    wpAny (model P0 w) A (eval (.Call (.Attribute (.Name x np) nm apos) [] [] pos) (envX cn cs L a ccd cl)) Q E s :=
  methX S H FC D hm M hnm (callWith_K0 (H.X.keeps S.fr.keep) M.2.2 (wpAny_call h)) hk hx hd he
end
end Mine
end
section -- Calls2
open PySem PySem.W PySem.Calls PyProof.Rows PyProof.V PySem.Spec
set_option maxRecDepth 100000
set_option linter.unusedVariables false
namespace Mine

section
variable {w : World} {K : Frag} {p : Program} {loose : List Str} {mean : ExcName → Option Value} {mg mb : Str → Option Value}
variable {A : Around} {env : Env} {h₀ : Heap} {L : Addr} {m : Str → Option Value} {μ : Mu} {s0 : Anc} {s : Shared}
  {R : Result → Shared → Prop} {name qual : Str} {params : Arguments} {body : List Stmt} {scope : Scope} {cl : List (Str × Addr)} {dV kV doc pm cdv ct oc : Value} {an od : Option Addr} {osl : Array (Option Value)} {f : Addr} {args : Args}

theorem At.drop {t : Addr} {o : Obj} (S : At s0 h₀ L s m (put μ t o)) (ht : μ t = none) : At s0 h₀ L s m μ :=
  S.sub fun a x e => by
    by_cases q : a = t
    · subst q; rw [ht] at e; cases e
    · rw [put_ne q]; exact e

theorem call_more {nm : Str} {ex front : List (Str × Value)} {DD : List (PyData × PyData)} {g₁ : Addr → Sem (List (Str × Value))} (H : Here K p loose mean mg mb A env h₀ L) (S : At s0 h₀ L s m μ)
    (ho : K.lookup f = some ⟨oc, od, .func (fnX name qual params body scope cl dV kV doc pm an cdv ct), osl⟩) (hcd : codeIn K cdv qual = true) (hroom : A.depth < recursionLimit)
    (hx : args.kw.filter (fun x => !ownKw params x.1) = ex) (hnm : params.kwarg.map (·.arg) = some nm) (hn : kwDistinct ex = true) (hD : FlatPairs PyData.str ex DD)
    (hfr : peek K ⟨P0, w.params⟩ (bindArgs (fnCut (fnX name qual params body scope cl dV kV doc pm an cdv ct)) (argsCut params args)) = some front)
    (hp : peekA K ⟨P0, w.params⟩ (bindArgs (fnX name qual params body scope cl dV kV doc pm an cdv ct) args) = some (dictOf [] 0, g₁))
    (hk₁ : ∀ D, g₁ D = (forIn ex PUnit.unit (fun x _ => (nsSet D x.1 x.2 >>= fun _ => pure (ForInStep.yield PUnit.unit))) >>= fun _ => pure (front ++ [(nm, Value.ref D)])))
    (hloc : ∀ D, ∀ y ∈ front ++ [(nm, Value.ref D)], scope.names.lookup y.1 = some .local)
    (h : ∀ D o g L' s₁, μ D = none → o.IsDictOf (strKind P0 w) ex → Here K p loose mean mg mb (A.deeper (envX qual scope L' f cdv cl)) (envX qual scope L' f cdv cl) g L' → At s0 g L' s₁ (fun y => (front ++ [(nm, Value.ref D)]).reverse.lookup y) (put μ D o) → h₀.StaysIn g →
      wpAny (model P0 w) (A.deeper (envX qual scope L' f cdv cl)) (execs body (envX qual scope L' f cdv cl))
        (fun fl s' => Back s0 h₀ L m g L' R (match fl with | .ret v => v | _ => .none) s')
        (fun e s' => wpAny (model P0 w) (A.deeper (envX qual scope L' f cdv cl)) (leaving (envX qual scope L' f cdv cl) e) (fun _ s'' => R (.error e) s'') (fun e' s'' => R (.error e') s'') s')
        s₁)
    (hcell : ∀ x ∈ scope.names, x.2 ≠ .cell) (hco : scope.isCoroutine = false := by rfl) (hgen : scope.isGenerator = false := by rfl) (hk : scope.kind = .function := by rfl) :
    codeAny (model P0 w) A (.call (.ref f) args) R s := by
  obtain ⟨A₀, base, outer, B, hA⟩ := H.below
  refine kpc_more B S.fr H.X S.sit.news H.T hA H.frame H.kind ho hcd hroom hx hnm hn hD hfr hp hk₁ hloc (fun D o g L' h₁ tk l lo hdo _ FG F' N' B' X' T' => ?_) hco hgen hk hcell
  have hμ : μ D = none := by
    cases q : μ D with
    | none => rfl
    | some x => exact absurd (l (D, x) (mem_lst.mpr ⟨S.sit.lt q, q⟩)) (Nat.lt_irrefl _)
  have st : h₀.StaysIn g := fun b x e => FG.keep b x e
  have big : sysModules < L' := Nat.lt_of_lt_of_le (modules_low T'.nolimit) F'.above
  have S1 : At s0 g L' { s with heap := h₁, toks := tk } (fun y => (front ++ [(nm, Value.ref D)]).reverse.lookup y) (put μ D o) := by
    refine ⟨⟨F', fun a x e => ?_, fun a x e => ?_, big⟩, S.kp⟩
    · by_cases q : a = D
      · subst q; rw [put_self] at e; cases e; exact N' _ (.head _)
      · rw [put_ne q] at e; exact N' (a, x) (.tail _ (mem_lst.mpr ⟨S.sit.lt e, e⟩))
    · by_cases q : a = D
      · subst q; exact lo
      · rw [put_ne q] at e; exact S.sit.low a x e
  refine wpAny_mono (h D o g L' _ hμ hdo ⟨X', T', ⟨_, _, _, B', Around.frames_deeper hA⟩, rfl, hk, H.hand⟩ S1 st) (fun fl s' hb => ?_) fun _ _ y => y
  obtain ⟨m', μ', S', k⟩ := hb
  exact ⟨L', m', lst μ' s'.heap.objs.size, S'.fr, S'.sit.news, fun F N => k ⟨sit_of F N (fun a o e => S'.sit.lt e) S'.sit.low S.sit.big, S'.kp⟩⟩
end
end Mine
end
section -- Fac
open PySem PySem.W PySem.Calls PyProof.Rows
set_option maxRecDepth 100000
set_option linter.unusedVariables false
namespace Mine
section
variable {w : World} {K : Frag} {p : Program} {loose : List Str} {mean : ExcName → Option Value} {mg mb : Str → Option Value}
variable {A : Around} {env : Env} {h₀ : Heap} {L : Addr} {m : Str → Option Value} {μ : Mu} {s0 : Anc} {s : Shared} {R : Result → Shared → Prop}

theorem fac_gen {st : Stmt} {f : Addr} {nm qual : Str} {v : Value} {p1 p2 : Pos} (hf : FnIn K f nm qual st [] .none .none) (hb : sBody st = [.Return (some (.Dict [] [] p1)) p2])
    (hbind : ∀ doc pm an cdv ct, bindArgs (fnX nm qual (sArgs st) (sBody st) (sScope st) [] .none .none doc pm an cdv ct) ⟨[v], []⟩ = (pure [(("self" : Str), v)] : Sem (List (Str × Value))))
    (hloc : (sScope st).names.lookup ("self" : Str) = some NameKind.local) (hcell : ∀ x ∈ (sScope st).names, x.2 ≠ .cell) (hco : (sScope st).isCoroutine = false) (hgen : (sScope st).isGenerator = false) (hk : (sScope st).kind = .function)
    (H : Here K p loose mean mg mb A env h₀ L) (S : At s0 h₀ L s m μ) (hroom : A.depth < recursionLimit)
    (post : ∀ d o s', μ d = none → At s0 h₀ L s' m (put μ d o) → EmptyO w o → R (.ok (.ret (.ref d))) s') :
    codeAny (model P0 w) A (.call (.ref f) ⟨[v], []⟩) R s := by
  obtain ⟨oc, od, doc, pm, an, cdv, ct, osl, ho, hcd⟩ := hf
  refine call_def (binds := [("self", v)]) H S ho hcd hroom (BindsTo.of_eq (hbind _ _ _ _ _)) (fun y hy => ?_) (fun g L' s₁ H' S1 _ => ?_) hcell hco hgen hk
  · cases List.mem_singleton.mp hy; exact hloc
  · rw [hb]
    refine wpAny_execs_cons (wpAny_Return_some (dNew S1 fun d o s' hd S2 he => ?_))
    exact Back.intro S2 fun k => post d o s' hd k he

theorem fac_node {v : Value} (hf : FnIn K 261 "node_dict_factory" "Graph.node_dict_factory" (inS 12 0) [] .none .none)
    (H : Here K p loose mean mg mb A env h₀ L) (S : At s0 h₀ L s m μ) (hroom : A.depth < recursionLimit)
    (post : ∀ d o s', μ d = none → At s0 h₀ L s' m (put μ d o) → EmptyO w o → R (.ok (.ret (.ref d))) s') :
    codeAny (model P0 w) A (.call (.ref 261) ⟨[v], []⟩) R s :=
  fac_gen hf (by rfl) (fun _ _ _ _ _ => by with_unfolding_all rfl) (by rfl) (by decide) (by rfl) (by rfl) (by rfl) H S hroom post
theorem fac_nattr {v : Value} (hf : FnIn K 268 "node_attr_dict_factory" "Graph.node_attr_dict_factory" (inS 12 1) [] .none .none)
    (H : Here K p loose mean mg mb A env h₀ L) (S : At s0 h₀ L s m μ) (hroom : A.depth < recursionLimit)
    (post : ∀ d o s', μ d = none → At s0 h₀ L s' m (put μ d o) → EmptyO w o → R (.ok (.ret (.ref d))) s') :
    codeAny (model P0 w) A (.call (.ref 268) ⟨[v], []⟩) R s :=
  fac_gen hf (by rfl) (fun _ _ _ _ _ => by with_unfolding_all rfl) (by rfl) (by decide) (by rfl) (by rfl) (by rfl) H S hroom post
theorem fac_outer {v : Value} (hf : FnIn K 275 "adjlist_outer_dict_factory" "Graph.adjlist_outer_dict_factory" (inS 12 2) [] .none .none)
    (H : Here K p loose mean mg mb A env h₀ L) (S : At s0 h₀ L s m μ) (hroom : A.depth < recursionLimit)
    (post : ∀ d o s', μ d = none → At s0 h₀ L s' m (put μ d o) → EmptyO w o → R (.ok (.ret (.ref d))) s') :
    codeAny (model P0 w) A (.call (.ref 275) ⟨[v], []⟩) R s :=
  fac_gen hf (by rfl) (fun _ _ _ _ _ => by with_unfolding_all rfl) (by rfl) (by decide) (by rfl) (by rfl) (by rfl) H S hroom post
theorem fac_inner {v : Value} (hf : FnIn K 282 "adjlist_inner_dict_factory" "Graph.adjlist_inner_dict_factory" (inS 12 3) [] .none .none)
    (H : Here K p loose mean mg mb A env h₀ L) (S : At s0 h₀ L s m μ) (hroom : A.depth < recursionLimit)
    (post : ∀ d o s', μ d = none → At s0 h₀ L s' m (put μ d o) → EmptyO w o → R (.ok (.ret (.ref d))) s') :
    codeAny (model P0 w) A (.call (.ref 282) ⟨[v], []⟩) R s :=
  fac_gen hf (by rfl) (fun _ _ _ _ _ => by with_unfolding_all rfl) (by rfl) (by decide) (by rfl) (by rfl) (by rfl) H S hroom post
theorem fac_eattr {v : Value} (hf : FnIn K 289 "edge_attr_dict_factory" "Graph.edge_attr_dict_factory" (inS 12 4) [] .none .none)
    (H : Here K p loose mean mg mb A env h₀ L) (S : At s0 h₀ L s m μ) (hroom : A.depth < recursionLimit)
    (post : ∀ d o s', μ d = none → At s0 h₀ L s' m (put μ d o) → EmptyO w o → R (.ok (.ret (.ref d))) s') :
    codeAny (model P0 w) A (.call (.ref 289) ⟨[v], []⟩) R s :=
  fac_gen hf (by rfl) (fun _ _ _ _ _ => by with_unfolding_all rfl) (by rfl) (by decide) (by rfl) (by rfl) (by rfl) H S hroom post
theorem fac_gattr {v : Value} (hf : FnIn K 296 "graph_attr_dict_factory" "Graph.graph_attr_dict_factory" (inS 12 5) [] .none .none)
    (H : Here K p loose mean mg mb A env h₀ L) (S : At s0 h₀ L s m μ) (hroom : A.depth < recursionLimit)
    (post : ∀ d o s', μ d = none → At s0 h₀ L s' m (put μ d o) → EmptyO w o → R (.ok (.ret (.ref d))) s') :
    codeAny (model P0 w) A (.call (.ref 296) ⟨[v], []⟩) R s :=
  fac_gen hf (by rfl) (fun _ _ _ _ _ => by with_unfolding_all rfl) (by rfl) (by decide) (by rfl) (by rfl) (by rfl) H S hroom post
end
end Mine
end
section -- Ops
open PySem PySem.W PySem.Calls PyProof.Rows
set_option maxRecDepth 100000
set_option linter.unusedVariables false
namespace Mine

section
variable {α : Type} [DecidableEq α]
theorem valueAt_map (l : List α) (g : α → Value) (k : α) : valueAt (l.map fun v => (v, g v)) k = if k ∈ l then some (g k) else none := by
  unfold valueAt
  induction l with
  | nil => rfl
  | cons a l ih =>
    rw [List.map_cons, List.find?_cons]
    by_cases h : a = k
    · subst h; simp
    · simp only [h, decide_false]
      rw [ih]
      have : (k ∈ a :: l) ↔ k ∈ l := by simp [Ne.symm h]
      simp only [this]
theorem stored_fresh {kvs : List (α × Value)} {k : α} {v : Value} (h : k ∉ kvs.map (·.1)) : stored kvs k v = kvs ++ [(k, v)] := by
  unfold stored
  rw [if_neg]
  intro q
  obtain ⟨x, hx, e⟩ := List.any_eq_true.mp q
  exact h (List.mem_map.mpr ⟨x, hx, of_decide_eq_true e⟩)
theorem stored_keys {kvs : List (α × Value)} {k : α} {v : Value} : (stored kvs k v).map (·.1) = if k ∈ kvs.map (·.1) then kvs.map (·.1) else kvs.map (·.1) ++ [k] := by
  by_cases h : k ∈ kvs.map (·.1)
  · rw [if_pos h]
    unfold stored
    rw [if_pos]
    · exact keys_map_store kvs k v
    · obtain ⟨x, hx, e⟩ := List.mem_map.mp h
      exact List.any_eq_true.mpr ⟨x, hx, decide_eq_true e⟩
  · rw [if_neg h, stored_fresh h]; simp
theorem valueAt_stored {kvs : List (α × Value)} {k j : α} {v : Value} : valueAt (stored kvs k v) j = if j = k then some v else valueAt kvs j := by
  by_cases h : k ∈ kvs.map (·.1)
  · unfold stored
    rw [if_pos (by
      obtain ⟨x, hx, e⟩ := List.mem_map.mp h
      exact List.any_eq_true.mpr ⟨x, hx, decide_eq_true e⟩)]
    unfold valueAt
    induction kvs with
    | nil => cases h
    | cons a l ih =>
      rw [List.map_cons, List.find?_cons, List.find?_cons]
      by_cases ha : a.1 = k
      · rw [if_pos ha]
        by_cases hj : j = k
        · subst hj; simp [ha]
        · rw [if_neg hj]
          have : decide (a.1 = j) = false := decide_eq_false fun q => hj (q.symm.trans ha)
          simp only [this]
          by_cases hl : k ∈ l.map (·.1)
          · have := ih hl; rw [if_neg hj] at this; exact this
          · rw [map_store_of_not_mem l k v hl]
      · rw [if_neg ha]
        have hl : k ∈ l.map (·.1) := by
          rcases List.mem_cons.mp h with q | q
          · exact absurd q.symm ha
          · exact q
        by_cases haj : a.1 = j
        · have hj : j ≠ k := fun q => ha (haj.trans q)
          simp [haj, hj]
        · simp only [haj, decide_false]
          exact ih hl
  · rw [stored_fresh h]
    unfold valueAt
    rw [List.find?_append]
    by_cases hj : j = k
    · subst hj
      have : kvs.find? (fun kv => decide (kv.1 = j)) = none := by
        rw [List.find?_eq_none]
        intro x hx q
        exact h (List.mem_map.mpr ⟨x, hx, of_decide_eq_true q⟩)
      rw [this]; simp
    · rw [if_neg hj]
      have : ([(k, v)] : List (α × Value)).find? (fun kv => decide (kv.1 = j)) = none := by simp [Ne.symm hj]
      rw [this, Option.or_none]
theorem without_map (l : List α) (g : α → Value) (k : α) : without (l.map fun v => (v, g v)) k = (l.filter fun v => decide (v ≠ k)).map fun v => (v, g v) := by
  unfold without
  rw [List.filter_map]; rfl
end

theorem le5 {l : List Int} (hn : l.Nodup) (h : ∀ k ∈ l, 0 ≤ k ∧ k < 5) : l.length ≤ 5 := by
  have hs : l ⊆ [0, 1, 2, 3, 4] := fun k hk => by
    have := h k hk
    have : k = 0 ∨ k = 1 ∨ k = 2 ∨ k = 3 ∨ k = 4 := by omega
    rcases this with rfl | rfl | rfl | rfl | rfl <;> simp
  exact hn.length_le_of_subset hs
theorem isDict_nodup {w : World} {KK : Type} [DecidableEq KK] {knd : KeyKind P0 w KK} {o : Obj} {kvs : List (KK × Value)} (h : o.IsDictOf knd kvs) : (kvs.map (·.1)).Nodup := let ⟨_, _, _, _, _, _, hn⟩ := h; hn
theorem le_line {n : Nat} (h : n ≤ 100) : n ≤ sizeLine := by rw [sizeLine_eq]; omega

structure Step (μ : Mu) (ad : Adr) (G : PE) (μ' : Mu) (ad' : Adr) (G' : PE) : Prop where
  keep : ∀ a o, μ a = some o → ¬ Fp ad G a → μ' a = some o
  grow : ∀ a, Fp ad' G' a → Fp ad G a ∨ μ a = none
  dom : ∀ a, μ' a = none → μ a = none
  x : ad' .x = ad .x
  ks : ∀ v, v ∈ G.ks → v ∈ G'.ks ∧ ad' (.S v) = ad (.S v)

section
variable {w : World} {μ μ' μ₁ : Mu} {ad ad' ad₁ : Adr} {G G' G₁ : PE} {a : Addr} {o o' on : Obj}
theorem Step.rfl' (μ : Mu) (ad : Adr) (G : PE) : Step μ ad G μ ad G := ⟨fun _ _ e _ => e, fun _ h => .inl h, fun _ h => h, rfl, fun _ h => ⟨h, rfl⟩⟩
theorem Step.trans (x : Step μ ad G μ₁ ad₁ G₁) (y : Step μ₁ ad₁ G₁ μ' ad' G') : Step μ ad G μ' ad' G' := by
  refine ⟨fun a o e n => y.keep a o (x.keep a o e n) fun f => ?_, fun a f => ?_, fun a e => x.dom a (y.dom a e), y.x.trans x.x, fun v h => let ⟨a, b⟩ := x.ks v h; let ⟨c, d⟩ := y.ks v a; ⟨c, d.trans b⟩⟩
  · rcases x.grow a f with f | f
    · exact n f
    · rw [e] at f; cases f
  · rcases y.grow a f with f | f
    · exact x.grow a f
    · exact .inr (x.dom a f)
theorem Step.new (x : Step μ ad G μ₁ ad₁ G₁) (h : μ₁ a = none) : Step μ ad G (put μ₁ a o) ad₁ G₁ := by
  refine ⟨fun b ob e n => ?_, x.grow, fun b e => ?_, x.x, x.ks⟩
  · have := x.keep b ob e n
    exact (put_ne fun q => by rw [q, h] at this; cases this).trans this
  · by_cases q : b = a
    · subst q; rw [put_self] at e; cases e
    · rw [put_ne q] at e; exact x.dom b e
theorem Step.drop (x : Step μ ad G (put μ₁ a o) ad₁ G₁) (h : μ a = none) : Step μ ad G μ₁ ad₁ G₁ := by
  refine ⟨fun b ob e n => ?_, x.grow, fun b e => ?_, x.x, x.ks⟩
  · have := x.keep b ob e n
    have q : b ≠ a := fun q => by rw [q, h] at e; cases e
    rwa [put_ne q] at this
  · by_cases q : b = a
    · subst q; exact h
    · exact x.dom b ((put_ne q).trans e)
theorem Step.upd (x : Step μ ad G μ₁ ad₁ G₁) (r : Role) (hr : Live G₁ r) (hl : ∀ q, Live G' q → Live G₁ q) (hk : ∀ v, v ∈ G₁.ks → v ∈ G'.ks := by exact fun _ h => h) : Step μ ad G (put μ₁ (ad₁ r) o') ad₁ G' := by
  refine x.trans ⟨fun b ob e n => (put_ne fun q => n ⟨r, hr, q.symm⟩).trans e, fun b ⟨q, l, e⟩ => .inl ⟨q, hl q l, e⟩, fun b e => ?_, rfl, fun v h => ⟨hk v h, rfl⟩⟩
  by_cases q : b = ad₁ r
  · subst q; rw [put_self] at e; cases e
  · rwa [put_ne q] at e
theorem Step.place (x : Step μ ad G μ₁ ad₁ G₁) (r n : Role) (hr : Live G₁ r) (hn : n ≠ .x) (ha : μ a = none ∨ Fp ad G a) (hl : ∀ q, Live G' q → q = n ∨ Live G₁ q)
    (hk : ∀ v, v ∈ G₁.ks → v ∈ G'.ks := by first | exact fun _ h => h | exact fun _ h => List.mem_append_left _ h) (hS : ∀ v, v ∈ G₁.ks → Role.S v ≠ n := by intro _ h q; cases q <;> contradiction) : Step μ ad G (put μ₁ (ad₁ r) o') (setA ad₁ n a) G' := by
  refine ⟨fun b ob e m => ?_, fun b ⟨q, l, e⟩ => ?_, fun b e => ?_, (setA_ne (Ne.symm hn)).trans x.x, fun v h => have ⟨a, b⟩ := x.ks v h; ⟨hk v a, (setA_ne (hS v a)).trans b⟩⟩
  · have h1 := x.keep b ob e m
    refine (put_ne fun q => ?_).trans h1
    rcases x.grow b ⟨r, hr, q.symm⟩ with f | f
    · exact m f
    · rw [e] at f; cases f
  · by_cases z : q = n
    · subst z; rw [setA_self] at e; subst e; exact ha.symm
    · rw [setA_ne z] at e
      exact x.grow b ⟨q, (hl q l).resolve_left z, e⟩
  · by_cases q : b = ad₁ r
    · subst q; rw [put_self] at e; cases e
    · rw [put_ne q] at e; exact x.dom b e

def PE.addS (G : PE) (v : Int) : PE := { G with ks := G.ks ++ [v] }
def PE.addP (G : PE) (v : Int) : PE := { G with kp := G.kp ++ [v] }
def PE.addN (G : PE) (v : Int) : PE := { G with kn := G.kn ++ [v] }
theorem map_setA {l : List Int} {f : Int → Role} {ad : Adr} {n : Role} {a : Addr} (h : ∀ v ∈ l, f v ≠ n) : (l.map fun v => (v, Value.ref (setA ad n a (f v)))) = l.map fun v => (v, Value.ref (ad (f v))) :=
  List.map_congr_left fun v hv => by rw [setA_ne (h v hv)]

theorem op_addS (D : Dr w μ ad G) {v : Int} (hv : v ∉ G.ks) (h5 : 0 ≤ v ∧ v < 5) (ha : ¬ Fp ad G a) (hon : μ a = some on) (he : EmptyO w on) (ho : o'.IsDictOf (ik w) (stored (G.ks.map fun v => (v, Value.ref (ad (.S v)))) v (.ref a))) :
    Dr w (put μ (ad .sd) o') (setA ad (.S v) a) (G.addS v) := by
  have hord : G.ord v = [] := D.ok.out v hv
  refine D.grow .sd (.S v) trivial (by intro q; cases q) ha hon hv ⟨D.ok.kn, ?_, D.ok.kp, D.ok.ord, fun u hu => D.ok.out u fun q => hu (List.mem_append_left _ q)⟩ ?_ ?_ ?_ ?_
  · intro u hu
    rcases List.mem_append.mp hu with q | q
    · exact D.ok.ks u q
    · cases List.mem_singleton.mp q; exact h5
  · intro q l
    cases q <;> first | exact .inr l | skip
    rename_i u
    rcases List.mem_append.mp l with q | q
    · exact .inr q
    · cases List.mem_singleton.mp q; exact .inl rfl
  · show o'.IsDictOf (ik w) ((G.ks ++ [v]).map fun u => (u, Value.ref (setA ad (.S v) a (.S u))))
    rw [stored_fresh (by simpa using hv)] at ho
    rw [List.map_append, map_setA (f := Role.S) (fun u hu q => by cases q; exact hv hu)]
    simpa using ho
  · show on.IsDictOf (ik w) ((G.ord v).map _)
    rw [hord]; exact he.2 _
  · intro q h1 h2 l ob c
    cases q with
    | x => exact c
    | dd => exact c
    | nd => exact c
    | sd => exact absurd rfl h1
    | pd => exact c
    | S u => exact c
    | P u => exact c
    | D u k => exact c
theorem op_addP (D : Dr w μ ad G) {v : Int} (hv : v ∉ G.kp) (h5 : 0 ≤ v ∧ v < 5) (ha : ¬ Fp ad G a) (hon : μ a = some on) (he : EmptyO w on) (ho : o'.IsDictOf (ik w) (stored (G.kp.map fun v => (v, Value.ref (ad (.P v)))) v (.ref a))) :
    Dr w (put μ (ad .pd) o') (setA ad (.P v) a) (G.addP v) := by
  refine D.grow .pd (.P v) trivial (by intro q; cases q) ha hon hv ⟨D.ok.kn, D.ok.ks, ?_, D.ok.ord, D.ok.out⟩ ?_ ?_ ?_ ?_
  · intro u hu
    rcases List.mem_append.mp hu with q | q
    · exact D.ok.kp u q
    · cases List.mem_singleton.mp q; exact h5
  · intro q l
    cases q <;> first | exact .inr l | skip
    rename_i u
    rcases List.mem_append.mp l with q | q
    · exact .inr q
    · cases List.mem_singleton.mp q; exact .inl rfl
  · show o'.IsDictOf (ik w) ((G.kp ++ [v]).map fun u => (u, Value.ref (setA ad (.P v) a (.P u))))
    rw [stored_fresh (by simpa using hv)] at ho
    rw [List.map_append, map_setA (f := Role.P) (fun u hu q => by cases q; exact hv hu)]
    simpa using ho
  · exact ⟨[], he.2 _, fun k hk => nomatch hk⟩
  · intro q h1 h2 l ob c
    cases q with
    | x => exact c
    | dd => exact c
    | nd => exact c
    | sd => exact c
    | pd => exact absurd rfl h1
    | S u => exact c
    | P u => exact c
    | D u k => exact c
theorem op_addN (D : Dr w μ ad G) {v : Int} (h5 : 0 ≤ v ∧ v < 5) {kvs : List (Int × Value)} (hk : kvs.map (·.1) = G.kn ++ [v]) (ho : o'.IsDictOf (ik w) kvs) : Dr w (put μ (ad .nd) o') ad (G.addN v) := by
  refine D.step .nd trivial ⟨?_, D.ok.ks, D.ok.kp, D.ok.ord, D.ok.out⟩ (fun q l => by cases q <;> exact l) ⟨kvs, ho, hk⟩ fun q h l ob c => ?_
  · intro u hu
    rcases List.mem_append.mp hu with q | q
    · exact D.ok.kn u q
    · cases List.mem_singleton.mp q; exact h5
  · cases q <;> first | exact c | exact absurd rfl h
def PE.edge (G : PE) (u v c d : Int) : PE := { G with ord := set1 G.ord u (G.ord u ++ [v]), cw := set2 G.cw u v c, ccw := set2 G.ccw u v d }
theorem op_edge (D : Dr w μ ad G) {u v c d : Int} (hu : u ∈ G.ks) (hv : v ∉ G.ord u) (h5 : 0 ≤ v ∧ v < 5) (ha : ¬ Fp ad G a) (hon : μ a = some on) (he : DatO w c d on)
    (ho : o'.IsDictOf (ik w) (stored ((G.ord u).map fun k => (k, Value.ref (ad (.D u k)))) v (.ref a))) : Dr w (put μ (ad (.S u)) o') (setA ad (.D u v) a) (G.edge u v c d) := by
  refine D.grow (.S u) (.D u v) hu (by intro q; cases q) ha hon hv ⟨D.ok.kn, D.ok.ks, D.ok.kp, ?_, ?_⟩ ?_ ?_ ?_ ?_
  · intro x k hk
    by_cases q : x = u
    · subst q
      rw [show (G.edge x v c d).ord x = G.ord x ++ [v] from set1_self ..] at hk
      rcases List.mem_append.mp hk with q | q
      · exact D.ok.ord x k q
      · cases List.mem_singleton.mp q; exact h5
    · rw [show (G.edge u v c d).ord x = G.ord x from set1_ne q] at hk
      exact D.ok.ord x k hk
  · intro x hx
    have : x ≠ u := fun q => hx (q ▸ hu)
    rw [show (G.edge u v c d).ord x = G.ord x from set1_ne this]
    exact D.ok.out x hx
  · intro q l
    cases q <;> first | exact .inr l | skip
    rename_i x k
    by_cases q : x = u
    · subst q
      have l : k ∈ (G.edge x v c d).ord x := l
      rw [show (G.edge x v c d).ord x = G.ord x ++ [v] from set1_self ..] at l
      rcases List.mem_append.mp l with q | q
      · exact .inr q
      · cases List.mem_singleton.mp q; exact .inl rfl
    · have l : k ∈ (G.edge u v c d).ord x := l
      rw [show (G.edge u v c d).ord x = G.ord x from set1_ne q] at l
      exact .inr l
  · show o'.IsDictOf (ik w) (((G.edge u v c d).ord u).map fun k => (k, Value.ref (setA ad (.D u v) a (.D u k))))
    rw [show (G.edge u v c d).ord u = G.ord u ++ [v] from set1_self ..]
    rw [stored_fresh (by simpa using hv)] at ho
    rw [List.map_append, map_setA (f := Role.D u) (fun k hk q => by cases q; exact hv hk)]
    simpa using ho
  · show DatO w (set2 G.cw u v c u v) (set2 G.ccw u v d u v) on
    rw [set2_self, set2_self]; exact he
  · intro q h1 h2 l ob c'
    cases q with
    | x => exact c'
    | dd => exact c'
    | nd => exact c'
    | sd => exact c'
    | pd => exact c'
    | P x => exact c'
    | S x =>
      have hx : x ≠ u := fun z => h1 (by rw [z])
      show ob.IsDictOf (ik w) (((G.edge u v c d).ord x).map fun k => (k, Value.ref (setA ad (.D u v) a (.D x k))))
      rw [show (G.edge u v c d).ord x = G.ord x from set1_ne hx, map_setA (f := Role.D x) (fun k hk q => by cases q; exact hx rfl)]
      exact c'
    | D x k =>
      have hx : ¬ (x = u ∧ k = v) := fun z => h2 (by rw [z.1, z.2])
      show DatO w (set2 G.cw u v c x k) (set2 G.ccw u v d x k) ob
      rw [set2_ne hx, set2_ne hx]; exact c'
theorem op_pred (D : Dr w μ ad G) {v : Int} (hv : v ∈ G.kp) {kvs : List (Int × Value)} (hk : ∀ k ∈ kvs.map (·.1), 0 ≤ k ∧ k < 5) (ho : o'.IsDictOf (ik w) kvs) : Dr w (put μ (ad (.P v)) o') ad G :=
  D.step (.P v) hv D.ok (fun _ l => l) ⟨kvs, ho, hk⟩ fun _ _ _ _ c => c
def PE.setCw (G : PE) (u v c : Int) : PE := { G with cw := set2 G.cw u v c }
def PE.setCcw (G : PE) (u v c : Int) : PE := { G with ccw := set2 G.ccw u v c }
theorem op_cw (D : Dr w μ ad G) {u v c : Int} (hv : v ∈ G.ord u) (ho : DatO w c (G.ccw u v) o') : Dr w (put μ (ad (.D u v)) o') ad (G.setCw u v c) := by
  refine D.step (.D u v) hv ⟨D.ok.kn, D.ok.ks, D.ok.kp, D.ok.ord, D.ok.out⟩ (fun q l => by cases q <;> exact l) ?_ fun q h l ob c' => ?_
  · show DatO w (set2 G.cw u v c u v) (G.ccw u v) o'
    rw [set2_self]; exact ho
  · cases q with
    | D x k =>
      have hx : ¬ (x = u ∧ k = v) := fun z => h (by rw [z.1, z.2])
      show DatO w (set2 G.cw u v c x k) (G.ccw x k) ob
      rw [set2_ne hx]; exact c'
    | _ => exact c'
theorem op_ccw (D : Dr w μ ad G) {u v c : Int} (hv : v ∈ G.ord u) (ho : DatO w (G.cw u v) c o') : Dr w (put μ (ad (.D u v)) o') ad (G.setCcw u v c) := by
  refine D.step (.D u v) hv ⟨D.ok.kn, D.ok.ks, D.ok.kp, D.ok.ord, D.ok.out⟩ (fun q l => by cases q <;> exact l) ?_ fun q h l ob c' => ?_
  · show DatO w (G.cw u v) (set2 G.ccw u v c u v) o'
    rw [set2_self]; exact ho
  · cases q with
    | D x k =>
      have hx : ¬ (x = u ∧ k = v) := fun z => h (by rw [z.1, z.2])
      show DatO w (G.cw x k) (set2 G.ccw u v c x k) ob
      rw [set2_ne hx]; exact c'
    | _ => exact c'
def PE.pop (G : PE) (u v : Int) : PE := { G with ord := set1 G.ord u ((G.ord u).filter fun k => decide (k ≠ v)) }
theorem op_pop (D : Dr w μ ad G) {u v : Int} (hu : u ∈ G.ks) (ho : o'.IsDictOf (ik w) (without ((G.ord u).map fun k => (k, Value.ref (ad (.D u k)))) v)) : Dr w (put μ (ad (.S u)) o') ad (G.pop u v) := by
  have mem : ∀ x k, k ∈ (G.pop u v).ord x → k ∈ G.ord x := fun x k hk => by
    by_cases q : x = u
    · subst q
      rw [show (G.pop x v).ord x = (G.ord x).filter fun k => decide (k ≠ v) from set1_self ..] at hk
      exact (List.mem_filter.mp hk).1
    · rwa [show (G.pop u v).ord x = G.ord x from set1_ne q] at hk
  refine D.step (.S u) hu ⟨D.ok.kn, D.ok.ks, D.ok.kp, fun x k hk => D.ok.ord x k (mem x k hk), fun x hx => ?_⟩ (fun q l => ?_) ?_ fun q h l ob c => ?_
  · have : x ≠ u := fun q => hx (q ▸ hu)
    rw [show (G.pop u v).ord x = G.ord x from set1_ne this]
    exact D.ok.out x hx
  · cases q <;> first | exact l | skip
    rename_i x k
    exact mem x k l
  · show o'.IsDictOf (ik w) (((G.pop u v).ord u).map fun k => (k, Value.ref (ad (.D u k))))
    rw [show (G.pop u v).ord u = (G.ord u).filter fun k => decide (k ≠ v) from set1_self .., ← without_map]
    exact ho
  · cases q with
    | S x =>
      have hx : x ≠ u := fun z => h (by rw [z])
      show ob.IsDictOf (ik w) (((G.pop u v).ord x).map fun k => (k, Value.ref (ad (.D x k))))
      rw [show (G.pop u v).ord x = G.ord x from set1_ne hx]
      exact c
    | _ => exact c
end
end Mine
end
section -- Edge
open PySem PySem.W PySem.Calls PyProof.Rows PyProof.V
set_option maxRecDepth 100000
set_option linter.unusedVariables false
namespace Mine

structure FEdge (K : Frag) : Prop where
  inner : FnIn K 282 "adjlist_inner_dict_factory" "Graph.adjlist_inner_dict_factory" (inS 12 3) [] .none .none
  mInner : MethIn K "adjlist_inner_dict_factory" 282
  nattr : FnIn K 268 "node_attr_dict_factory" "Graph.node_attr_dict_factory" (inS 12 1) [] .none .none
  mNattr : MethIn K "node_attr_dict_factory" 268
  eattr : FnIn K 289 "edge_attr_dict_factory" "Graph.edge_attr_dict_factory" (inS 12 4) [] .none .none
  mEattr : MethIn K "edge_attr_dict_factory" 289
  edge : FnIn K 635 "add_edge" "DiGraph.add_edge" (inS 14 9) [] .none .none

abbrev edgeEnv (L a : Addr) (ccd : Value) : Env := envX "DiGraph.add_edge" (sScope (inS 14 9)) L a ccd []

def PE.addV (G : PE) (v : Int) : PE := if v ∈ G.ks then G else ((G.addS v).addP v).addN v
theorem PE.addV_in {G : PE} {v : Int} (h : v ∈ G.ks) : G.addV v = G := if_pos h
theorem PE.addV_out {G : PE} {v : Int} (h : v ∉ G.ks) : G.addV v = ((G.addS v).addP v).addN v := if_neg h
def PE.Same (G : PE) : Prop := G.kn = G.ks ∧ G.kp = G.ks
theorem PE.Same.addV {G : PE} (h : G.Same) (v : Int) : (G.addV v).Same := by
  by_cases q : v ∈ G.ks
  · rw [PE.addV_in q]; exact h
  · rw [PE.addV_out q]
    exact ⟨congrArg (· ++ [v]) h.1, congrArg (· ++ [v]) h.2⟩
theorem PE.addV_mem {G : PE} (v : Int) : v ∈ (G.addV v).ks := by
  by_cases q : v ∈ G.ks
  · rw [PE.addV_in q]; exact q
  · rw [PE.addV_out q]; exact List.mem_append_right _ (.head _)
theorem PE.addV_mono {G : PE} {u : Int} (v : Int) (h : u ∈ G.ks) : u ∈ (G.addV v).ks := by
  by_cases q : v ∈ G.ks
  · rw [PE.addV_in q]; exact h
  · rw [PE.addV_out q]; exact List.mem_append_left _ h
@[simp] theorem PE.addV_ord {G : PE} (v : Int) : (G.addV v).ord = G.ord := by unfold PE.addV; split <;> rfl
@[simp] theorem PE.addV_cw {G : PE} (v : Int) : (G.addV v).cw = G.cw := by unfold PE.addV; split <;> rfl
@[simp] theorem PE.addV_ccw {G : PE} (v : Int) : (G.addV v).ccw = G.ccw := by unfold PE.addV; split <;> rfl

section
variable {nd sd pd : Addr} {es : List DictEntry} {n : Nat}
theorem ddo_all (h : DDo nd sd pd (dictOf es n)) : getL "_node" es = some (some (.ref nd)) ∧ getL "_adj" es = some (some (.ref sd)) ∧ getL "_succ" es = some (some (.ref sd)) ∧ getL "_pred" es = some (some (.ref pd)) := by
  obtain ⟨es', n', e, a, b, c, d, _⟩ := h
  have : es = es' := by
    have h1 : Data.dict es.toArray n = Data.dict es'.toArray n' := congrArg Obj.data e
    injection h1 with h1 _
    simpa using congrArg Array.toList h1
  subst this
  exact ⟨a, b, c, d⟩
theorem ddo_node (h : DDo nd sd pd (dictOf es n)) : getL "_node" es = some (some (.ref nd)) := (ddo_all h).1
theorem ddo_adj (h : DDo nd sd pd (dictOf es n)) : getL "_adj" es = some (some (.ref sd)) := (ddo_all h).2.1
theorem ddo_succ (h : DDo nd sd pd (dictOf es n)) : getL "_succ" es = some (some (.ref sd)) := (ddo_all h).2.2.1
theorem ddo_pred (h : DDo nd sd pd (dictOf es n)) : getL "_pred" es = some (some (.ref pd)) := (ddo_all h).2.2.2
end

section
variable {w : World} {G : PE} {v : Int}
theorem liveS_ (q : Role) (l : Live (G.addS v) q) : q = .S v ∨ Live G q := by
  cases q <;> first | exact .inr l | skip
  rename_i u
  rcases List.mem_append.mp l with q | q
  · exact .inr q
  · cases List.mem_singleton.mp q; exact .inl rfl
theorem liveP_ (q : Role) (l : Live ((G.addS v).addP v) q) : q = .P v ∨ Live (G.addS v) q := by
  cases q <;> first | exact .inr l | skip
  rename_i u
  rcases List.mem_append.mp l with q | q
  · exact .inr q
  · cases List.mem_singleton.mp q; exact .inl rfl
theorem liveN_ (q : Role) (l : Live (((G.addS v).addP v).addN v) q) : Live ((G.addS v).addP v) q := by
  cases q <;> exact l

theorem blk_u {K : Frag} {p : Program} {loose : List Str} {mean : ExcName → Option Value} {mg mb : Str → Option Value} {A : Around} {h₀ : Heap} {L a : Addr} {m : Str → Option Value} {μ : Mu} {s0 : Anc} {s : Shared} {ad : Adr} {G : PE} {ccd : Value} {t : Tok} {v : Int} {E : Value → Shared → Prop} {Q : Flow → Shared → Prop}
    (FE : FEdge K) (FC : FCls K) (H : Here K p loose mean mg mb A (edgeEnv L a ccd) h₀ L) (S : At s0 h₀ L s m μ) (D : Dr w μ ad G) (W : G.Same) (hs : m "self" = some (.ref (ad .x))) (hv : m "u" = some (.int v t)) (h5 : 0 ≤ v ∧ v < 5) (hroom : A.depth < recursionLimit)
    (post : ∀ s' μ' ad', At s0 h₀ L s' m μ' → Dr w μ' ad' (G.addV v) → Step μ ad G μ' ad' (G.addV v) → Q .next s') :
    wpAny (model P0 w) A (exec (nth (sBody (inS 14 9)) 1) (edgeEnv L a ccd)) Q E s := by
  refine wpAny_If (wpAny_isTrue_Compare1 (nameX_L S.fr hv (attrX S H FC D hs FC.succ (v := .ref (ad .sd)) (fun es n h => ddo_succ h) rfl fun s1 S1 => ?_)) (by rfl))
  obtain ⟨osd, esd, csd⟩ := D.at_ .sd trivial
  refine dNotIn S1 esd csd (intKind_is ..) fun s2 S2 => wpAny_truthy_bool ?_
  rw [valueAt_map]
  by_cases hin : v ∈ G.ks
  · rw [if_pos hin]
    refine wpAny_execs_nil (post s2 μ ad S2 ?_ ?_)
    · rw [PE.addV_in hin]; exact D
    · rw [PE.addV_in hin]; exact Step.rfl' ..
  rw [if_neg hin]
  have hip : v ∉ G.kp := W.2 ▸ hin
  have hinn : v ∉ G.kn := W.1 ▸ hin
  refine wpAny_execs_cons (wpAny_If (wpAny_isTrue_Compare1 (nameX_L S2.fr hv (wpAny_Constant_none (is_int_none (wpAny_truthy_bool ?_)))) (by rfl)))
  refine wpAny_execs_nil ?_
  refine wpAny_execs_cons (wpAny_Assign_Subscript (methX0 S2 H FC D hs FE.mInner (by decide) (fac_inner FE.inner H S2 hroom fun d1 o1 s3 hd1 S3 he1 => ?_)) (by rfl))
  have D3 := D.new (o := o1) hd1
  refine attrX S3 H FC D3 hs FC.succ (v := .ref (ad .sd)) (fun es n h => ddo_succ h) rfl fun s4 S4 => nameX_L S4.fr hv ?_
  obtain ⟨osd, esd, csd⟩ := D3.at_ .sd trivial
  have l1 : (G.ks.map fun v => (v, Value.ref (ad (.S v)))).length ≤ sizeLine := by
    have := le5 (isDict_nodup csd) (by simpa using D.ok.ks)
    exact le_line (by simp at this ⊢; omega)
  refine dSet S4 esd csd (intKind_is ..) l1 fun s5 o5 S5 hd5 => ?_
  have D5 := op_addS D3 hin h5 (D.fresh hd1) put_self he1 hd5
  have T5 := ((Step.rfl' μ ad G).new (o := o1) hd1).place .sd (.S v) (o' := o5) (G' := G.addS v) trivial (by intro q; cases q) (a := d1) (.inl hd1) (liveS_)
  have hs5 : m "self" = some (.ref (setA ad (.S v) d1 .x)) := hs
  refine wpAny_execs_cons (wpAny_Assign_Subscript (methX0 S5 H FC D5 hs5 FE.mInner (by decide) (fac_inner FE.inner H S5 hroom fun d2 o2 s6 hd2 S6 he2 => ?_)) (by rfl))
  have D6 := D5.new (o := o2) hd2
  refine attrX S6 H FC D6 hs5 FC.pred (v := .ref (setA ad (.S v) d1 .pd)) (fun es n h => ddo_pred h) rfl fun s7 S7 => nameX_L S7.fr hv ?_
  obtain ⟨opd, epd, cpd⟩ := D6.at_ .pd trivial
  have l2 : (G.kp.map fun v' => (v', Value.ref (setA ad (.S v) d1 (.P v')))).length ≤ sizeLine := by
    have := le5 (isDict_nodup cpd) (by intro k hk; exact D.ok.kp k (by simpa [PE.addS] using hk))
    exact le_line (by simp [PE.addS] at this ⊢; omega)
  refine dSet S7 epd cpd (intKind_is ..) l2 fun s8 o8 S8 hd8 => ?_
  have D8 := op_addP D6 (v := v) hip h5 (D5.fresh hd2) put_self he2 hd8
  have T8 := (T5.new (o := o2) hd2).place .pd (.P v) (o' := o8) (G' := (G.addS v).addP v) trivial (by intro q; cases q) (a := d2) (.inl (T5.dom _ hd2)) (liveP_)
  have hs8 : m "self" = some (.ref (setA (setA ad (.S v) d1) (.P v) d2 .x)) := hs
  refine wpAny_execs_cons (wpAny_Assign_Subscript (methX0 S8 H FC D8 hs8 FE.mNattr (by decide) (fac_nattr FE.nattr H S8 hroom fun d3 o3 s9 hd3 S9 he3 => ?_)) (by rfl))
  have D9 := D8.new (o := o3) hd3
  refine attrX S9 H FC D9 hs8 FC.node (v := .ref (setA (setA ad (.S v) d1) (.P v) d2 .nd)) (fun es n h => ddo_node h) rfl fun s10 S10 => nameX_L S10.fr hv ?_
  obtain ⟨ond, en, kvs, cn, hk⟩ := D9.at_ .nd trivial
  have hk : kvs.map (·.1) = G.kn := hk
  have l3 : kvs.length ≤ sizeLine := by
    have := le5 (isDict_nodup cn) (by rw [hk]; exact D.ok.kn)
    exact le_line (by simp at this; omega)
  refine dSet S10 en cn (intKind_is ..) l3 fun s11 o11 S11 hd11 => ?_
  have D11 := op_addN D9 (v := v) h5 (by rw [stored_keys, hk, if_neg hinn]; rfl) hd11
  have T11 := (T8.new (o := o3) hd3).upd .nd (o' := o11) (G' := ((G.addS v).addP v).addN v) trivial (liveN_)
  rw [← PE.addV_out hin] at D11 T11
  exact wpAny_execs_nil (post _ _ _ S11 D11 T11)

theorem blk_v {K : Frag} {p : Program} {loose : List Str} {mean : ExcName → Option Value} {mg mb : Str → Option Value} {A : Around} {h₀ : Heap} {L a : Addr} {m : Str → Option Value} {μ : Mu} {s0 : Anc} {s : Shared} {ad : Adr} {G : PE} {ccd : Value} {t : Tok} {v : Int} {E : Value → Shared → Prop} {Q : Flow → Shared → Prop}
    (FE : FEdge K) (FC : FCls K) (H : Here K p loose mean mg mb A (edgeEnv L a ccd) h₀ L) (S : At s0 h₀ L s m μ) (D : Dr w μ ad G) (W : G.Same) (hs : m "self" = some (.ref (ad .x))) (hv : m "v" = some (.int v t)) (h5 : 0 ≤ v ∧ v < 5) (hroom : A.depth < recursionLimit)
    (post : ∀ s' μ' ad', At s0 h₀ L s' m μ' → Dr w μ' ad' (G.addV v) → Step μ ad G μ' ad' (G.addV v) → Q .next s') :
    wpAny (model P0 w) A (exec (nth (sBody (inS 14 9)) 2) (edgeEnv L a ccd)) Q E s := by
  refine wpAny_If (wpAny_isTrue_Compare1 (nameX_L S.fr hv (attrX S H FC D hs FC.succ (v := .ref (ad .sd)) (fun es n h => ddo_succ h) rfl fun s1 S1 => ?_)) (by rfl))
  obtain ⟨osd, esd, csd⟩ := D.at_ .sd trivial
  refine dNotIn S1 esd csd (intKind_is ..) fun s2 S2 => wpAny_truthy_bool ?_
  rw [valueAt_map]
  by_cases hin : v ∈ G.ks
  · rw [if_pos hin]
    refine wpAny_execs_nil (post s2 μ ad S2 ?_ ?_)
    · rw [PE.addV_in hin]; exact D
    · rw [PE.addV_in hin]; exact Step.rfl' ..
  rw [if_neg hin]
  have hip : v ∉ G.kp := W.2 ▸ hin
  have hinn : v ∉ G.kn := W.1 ▸ hin
  refine wpAny_execs_cons (wpAny_If (wpAny_isTrue_Compare1 (nameX_L S2.fr hv (wpAny_Constant_none (is_int_none (wpAny_truthy_bool ?_)))) (by rfl)))
  refine wpAny_execs_nil ?_
  refine wpAny_execs_cons (wpAny_Assign_Subscript (methX0 S2 H FC D hs FE.mInner (by decide) (fac_inner FE.inner H S2 hroom fun d1 o1 s3 hd1 S3 he1 => ?_)) (by rfl))
  have D3 := D.new (o := o1) hd1
  refine attrX S3 H FC D3 hs FC.succ (v := .ref (ad .sd)) (fun es n h => ddo_succ h) rfl fun s4 S4 => nameX_L S4.fr hv ?_
  obtain ⟨osd, esd, csd⟩ := D3.at_ .sd trivial
  have l1 : (G.ks.map fun v => (v, Value.ref (ad (.S v)))).length ≤ sizeLine := by
    have := le5 (isDict_nodup csd) (by simpa using D.ok.ks)
    exact le_line (by simp at this ⊢; omega)
  refine dSet S4 esd csd (intKind_is ..) l1 fun s5 o5 S5 hd5 => ?_
  have D5 := op_addS D3 hin h5 (D.fresh hd1) put_self he1 hd5
  have T5 := ((Step.rfl' μ ad G).new (o := o1) hd1).place .sd (.S v) (o' := o5) (G' := G.addS v) trivial (by intro q; cases q) (a := d1) (.inl hd1) (liveS_)
  have hs5 : m "self" = some (.ref (setA ad (.S v) d1 .x)) := hs
  refine wpAny_execs_cons (wpAny_Assign_Subscript (methX0 S5 H FC D5 hs5 FE.mInner (by decide) (fac_inner FE.inner H S5 hroom fun d2 o2 s6 hd2 S6 he2 => ?_)) (by rfl))
  have D6 := D5.new (o := o2) hd2
  refine attrX S6 H FC D6 hs5 FC.pred (v := .ref (setA ad (.S v) d1 .pd)) (fun es n h => ddo_pred h) rfl fun s7 S7 => nameX_L S7.fr hv ?_
  obtain ⟨opd, epd, cpd⟩ := D6.at_ .pd trivial
  have l2 : (G.kp.map fun v' => (v', Value.ref (setA ad (.S v) d1 (.P v')))).length ≤ sizeLine := by
    have := le5 (isDict_nodup cpd) (by intro k hk; exact D.ok.kp k (by simpa [PE.addS] using hk))
    exact le_line (by simp [PE.addS] at this ⊢; omega)
  refine dSet S7 epd cpd (intKind_is ..) l2 fun s8 o8 S8 hd8 => ?_
  have D8 := op_addP D6 (v := v) hip h5 (D5.fresh hd2) put_self he2 hd8
  have T8 := (T5.new (o := o2) hd2).place .pd (.P v) (o' := o8) (G' := (G.addS v).addP v) trivial (by intro q; cases q) (a := d2) (.inl (T5.dom _ hd2)) (liveP_)
  have hs8 : m "self" = some (.ref (setA (setA ad (.S v) d1) (.P v) d2 .x)) := hs
  refine wpAny_execs_cons (wpAny_Assign_Subscript (methX0 S8 H FC D8 hs8 FE.mNattr (by decide) (fac_nattr FE.nattr H S8 hroom fun d3 o3 s9 hd3 S9 he3 => ?_)) (by rfl))
  have D9 := D8.new (o := o3) hd3
  refine attrX S9 H FC D9 hs8 FC.node (v := .ref (setA (setA ad (.S v) d1) (.P v) d2 .nd)) (fun es n h => ddo_node h) rfl fun s10 S10 => nameX_L S10.fr hv ?_
  obtain ⟨ond, en, kvs, cn, hk⟩ := D9.at_ .nd trivial
  have hk : kvs.map (·.1) = G.kn := hk
  have l3 : kvs.length ≤ sizeLine := by
    have := le5 (isDict_nodup cn) (by rw [hk]; exact D.ok.kn)
    exact le_line (by simp at this; omega)
  refine dSet S10 en cn (intKind_is ..) l3 fun s11 o11 S11 hd11 => ?_
  have D11 := op_addN D9 (v := v) h5 (by rw [stored_keys, hk, if_neg hinn]; rfl) hd11
  have T11 := (T8.new (o := o3) hd3).upd .nd (o' := o11) (G' := ((G.addS v).addP v).addN v) trivial (liveN_)
  rw [← PE.addV_out hin] at D11 T11
  exact wpAny_execs_nil (post _ _ _ S11 D11 T11)
end
end Mine
end
section -- Lib2
open PySem PySem.W PySem.Calls PyProof.Rows PyProof.V
set_option maxRecDepth 100000
set_option linter.unusedVariables false
namespace Mine

theorem Sit.ext {h₀ h h' : Heap} {L n : Addr} {m : Str → Option Value} {μ : Mu} (S : Sit h₀ L h m μ) (he : Heap.ExtBut n h h') (hn : h.objs.size ≤ n) : Sit h₀ L h' m μ :=
  S.grow fun b o e => he b o (Nat.ne_of_lt (Nat.lt_of_lt_of_le (Heap.lt_size e) hn)) e

section
variable {w : World} {K : Frag} {p : Program} {loose : List Str} {mean : ExcName → Option Value} {mg mb : Str → Option Value}
variable {A A' : Around} {h₀ : Heap} {L : Addr} {m : Str → Option Value} {μ : Mu} {s0 : Anc} {s : Shared} {E : Value → Shared → Prop}
  {a d d2 : Addr} {env env' : Env} {o o2 : Obj} {x nm : Str} {v : Value} {np pos apos : Pos}
  {KK : Type} [DecidableEq KK] {knd : KeyKind P0 w KK} {kvs more : List (KK × Value)} {k : KK} {key dflt : Value}

theorem cwB {id : String} {first : List Value} {e : PySem.Expr} {args : List PySem.Expr} {Q : Value → Shared → Prop}
    (h : wpAny (model P0 w) A (spliced (backTo pos (starEach (e :: args) env))) (fun vs s₁ => wpAny (model P0 w) A (call (.builtin id) (first ++ vs)) Q E s₁) E s)
    (he : starEach (e :: args) env = (false, eval e env) :: starEach args env := by rfl) (hp : (backTo pos (starEach args env)).any (·.1) = false := by rfl) :
    wpAny (model P0 w) A (callWith pos (.builtin id) first (backTo pos (starEach (e :: args) env)) []) Q E s := by
  rw [he] at h ⊢
  exact callWith_builtin (by show (false || (backTo pos (starEach args _)).any (·.1)) = false; rw [hp]; rfl) (evalArgs_plain h)

theorem dUpdM {pl : Sem Bool} {Q : Value × List Value → Shared → Prop} (S : At s0 h₀ L s m μ) (e : μ d = some o) (hd : o.IsDictOf knd kvs) (h : Q (.builtin "dict.update", [.ref d]) s) : wpAny (model P0 w) A (getMethod (.ref d) "update" pl) Q E s :=
  have hD := S.dict e hd
  getMethod_builtin hD.typeIs PySem.F.plainAttrs_dict PySem.F.slot_dict_update PySem.F.type_dict_update hD.mapOf.noDict h
theorem dUpd {Q : Value → Shared → Prop} (S : At s0 h₀ L s m μ) (e : μ d = some o) (hd : o.IsDictOf knd kvs) (e2 : μ d2 = some o2) (hd2 : o2.IsDictOf knd more) (hne : d ≠ d2) (hsz : kvs.length + more.length ≤ sizeLine)
    (h : ∀ s' o', At s0 h₀ L s' m (put μ d o') → o'.IsDictOf knd (merged kvs more) → Q .none s') : wpAny (model P0 w) A (call (.builtin "dict.update") [.ref d, .ref d2]) Q E s :=
  have hD := S.dict e hd
  call_meetsIn PySem.F.slot_dict_update hD.typeIs PySem.F.entry_dict_update (PySem.F.args_dict_update_2 _ _) (meets_dict_update knd d d2 hne (S.low e2)) ⟨_, _, hD, S.dict e2 hd2, hsz, fun h' hm _ hs => by
    obtain ⟨o', ho', hd'⟩ := Heap.dictOf_iff.mp hm
    exact h _ o' (S.heap (S.sit.upd e hs ho') _) hd'⟩

theorem tupAsg {elts vals : List PySem.Expr} {k j : Nat} {tpos vpos : Pos} {names : List Str} {Q : Flow → Shared → Prop} (hh : A.handled = none)
    (h : wpAny (model P0 w) A (spliced (backTo vpos (starEach vals env))) (fun vs s₁ => vs.length = names.length ∧ vs.length ≤ sizeLine ∧ ∃ m μ, At s0 h₀ L s₁ m μ ∧
      ∀ s₂, At s0 h₀ L s₂ m μ → wpAny (model P0 w) A (assignInOrder (names.reverse.map fun n => bindName env n) vs.reverse) (fun _ => Q .next) E s₂) E s)
    (hs : swapsWithSole [.Tuple elts k tpos] (.Tuple vals j vpos) pos.line env = pure false := by rfl)
    (hw : swappedStores [.Tuple elts k tpos] (.Tuple vals j vpos) env = pure (some names) := by rfl) :
    wpAny (model P0 w) A (exec (.Assign [.Tuple elts k tpos] (.Tuple vals j vpos) pos) env) Q E s := by
  refine Assign_Tuple_swapped (names := names) (wpAny_Tuple (wpAny_mono h (fun vs s₁ h₁ => ?_) fun _ _ x => x)) hs hw
  obtain ⟨hl, hz, m, μ, S, h₂⟩ := h₁
  refine ⟨hz, ?_⟩
  have hT : IsTup (s₁.heap.push { cls := .type "tuple", data := .seq vs.toArray }) s₁.heap.objs.size vs.toArray := ⟨_, Heap.get?_push_size _ rfl, rfl, _, rfl⟩
  rw [show names.length = vs.toArray.size by rw [List.size_toArray]; exact hl.symm]
  refine unpackItems_tuple hh hT fun h' he => ?_
  have := h₂ { s₁ with heap := h' } ⟨((S.sit.push _).ext he (Nat.le_refl _)).sub fun b ob e => (put_ne fun q => by rw [q, S.sit.new_none] at e; cases e).trans e, S.kp⟩
  simpa using this
end

section
variable {w : World} {K : Frag} {p : Program} {loose : List Str} {mean : ExcName → Option Value} {mg mb : Str → Option Value}
variable {A : Around} {env : Env} {h₀ : Heap} {L a dA : Addr} {m : Str → Option Value} {μ : Mu} {s0 : Anc} {s : Shared} {ad : Adr} {G : PE} {ccd : Value} {tu tv t1 t2 : Tok} {u v c d : Int} {E : Value → Shared → Prop} {Q : Flow → Shared → Prop}

theorem IsDictOf.nodup_ {o : Obj} {KK : Type} [DecidableEq KK] {knd : KeyKind P0 w KK} {kvs : List (KK × Value)} (h : o.IsDictOf knd kvs) : (kvs.map (·.1)).Nodup := isDict_nodup h

def PE.addEdge (G : PE) (u v c d : Int) : PE := ((G.addV u).addV v).edge u v c d

theorem liveE_ (q : Role) (l : Live (G.edge u v c d) q) : q = .D u v ∨ Live G q := by
  cases q <;> first | exact .inr l | skip
  rename_i x k
  by_cases q : x = u
  · subst q
    have l : k ∈ (G.edge x v c d).ord x := l
    rw [show (G.edge x v c d).ord x = G.ord x ++ [v] from set1_self ..] at l
    rcases List.mem_append.mp l with q | q
    · exact .inr q
    · cases List.mem_singleton.mp q; exact .inl rfl
  · have l : k ∈ (G.edge u v c d).ord x := l
    rw [show (G.edge u v c d).ord x = G.ord x from set1_ne q] at l
    exact .inr l

theorem edge_body (FE : FEdge K) (FC : FCls K) (H : Here K p loose mean mg mb A (edgeEnv L a ccd) h₀ L) (S : At s0 h₀ L s m μ) (D : Dr w μ ad G) (W : G.Same)
    (hs : m "self" = some (.ref (ad .x))) (hu : m "u_of_edge" = some (.int u tu)) (hv : m "v_of_edge" = some (.int v tv)) (ha : m "attr" = some (.ref dA)) {oA : Obj} {ex : List (Str × Value)} (hA : μ dA = some oA) (hex : oA.IsDictOf (sk w) ex) (hfA : ¬ Fp ad G dA)
    (h1 : valueAt ex ("cw" : Str) = some (.int c t1)) (h2 : valueAt ex ("ccw" : Str) = some (.int d t2)) (hl : ex.length ≤ 2) (hm : merged [] ex = ex)
    (hu5 : 0 ≤ u ∧ u < 5) (hv5 : 0 ≤ v ∧ v < 5) (hnew : v ∉ G.ord u) (hroom : A.depth < recursionLimit)
    (post : ∀ s' m' μ' ad', At s0 h₀ L s' m' μ' → Dr w μ' ad' (G.addEdge u v c d) → Step μ ad G μ' ad' (G.addEdge u v c d) → Q .next s') :
    wpAny (model P0 w) A (execs (sBody (inS 14 9)) (edgeEnv L a ccd)) Q E s := by
  refine wpAny_execs_cons (tupAsg (names := ["u", "v"]) H.hand (wpAny_items_cons (nameX_L S.fr hu (wpAny_items_cons (nameX_L S.fr hv (wpAny_items_nil ⟨rfl, le_line (show 2 ≤ 100 by decide), m, μ, S, fun s1 S1 => ?_⟩))))))
  refine wpAny_bind (wpAny_bindName (stL S1 fun s2 S2 => wpAny_bind (wpAny_bindName (stL S2 fun s3 S3 => wpAny_pure ?_))))
  have Y3 : At s0 h₀ L s3 (fun y => if y = ("u" : Str) then some (.int u tu) else if y = ("v" : Str) then some (.int v tv) else m y) μ := S3
  clear S1 S2 S3
  generalize hm3 : (fun y => if y = ("u" : Str) then some (Value.int u tu) else if y = ("v" : Str) then some (Value.int v tv) else m y) = m3 at Y3
  have mu : m3 "u" = some (.int u tu) := by rw [← hm3]; rfl
  have mv : m3 "v" = some (.int v tv) := by rw [← hm3]; rfl
  have ms : m3 "self" = some (.ref (ad .x)) := by rw [← hm3]; exact hs
  have ma : m3 "attr" = some (.ref dA) := by rw [← hm3]; exact ha
  clear hm3 hs hu hv ha
  refine wpAny_execs_cons (blk_u FE FC H Y3 D W ms mu hu5 hroom fun s4 μ4 ad4 S4 D4 T4 => ?_)
  refine wpAny_execs_cons (blk_v FE FC H S4 D4 (W.addV u) (by rw [T4.x]; exact ms) mv hv5 hroom fun s5 μ5 ad5 S5 D5 T45 => ?_)
  have T5 := T4.trans T45
  have A5 := T5.keep _ _ hA hfA
  have F5 : ¬ Fp ad5 ((G.addV u).addV v) dA := fun f => (T5.grow _ f).elim hfA fun q => by rw [hA] at q; cases q
  have uk : u ∈ ((G.addV u).addV v).ks := PE.addV_mono v (PE.addV_mem u)
  have vk : v ∈ ((G.addV u).addV v).ks := PE.addV_mem v
  have vn : v ∉ ((G.addV u).addV v).ord u := by rw [PE.addV_ord, PE.addV_ord]; exact hnew
  have W5 := (W.addV u).addV v
  have hG : G.addEdge u v c d = ((G.addV u).addV v).edge u v c d := rfl
  rw [hG] at post
  generalize (G.addV u).addV v = G5 at *
  have ms5 : m3 "self" = some (.ref (ad5 .x)) := by rw [T5.x]; exact ms
  clear T45 T4 D4 S4
  refine wpAny_execs_cons (wpAny_Assign_Name (MethodCall_ (Subscript_ (attrX S5 H FC D5 ms5 FC.adj (v := .ref (ad5 .sd)) (fun es n h => ddo_adj h) rfl fun s6 S6 => nameX_L S6.fr mu ?_))))
  obtain ⟨osd, esd, csd⟩ := D5.at_ .sd trivial
  refine dItem S6 esd csd (intKind_is ..) (by rw [valueAt_map, if_pos uk]) fun s7 S7 => ?_
  obtain ⟨oS, eS, cS⟩ := D5.at_ (.S u) uk
  refine dGetM S7 eS cS (cwB (wpAny_items_cons (nameX_L S7.fr mv (wpAny_items_cons (methX0 S7 H FC D5 ms5 FE.mEattr (by decide) (fac_eattr FE.eattr H S7 hroom fun dd od s8 hdd S8 hed => wpAny_items_nil ?_))))))
  have D8 := D5.new (o := od) hdd
  obtain ⟨oS, eS, cS⟩ := D8.at_ (.S u) uk
  refine dGet2 S8 eS cS (intKind_is ..) fun s9 S9 => ?_
  rw [valueAt_map, if_neg vn]
  refine stL S9 fun s10 S10 => ?_
  have T10 := T5.new (o := od) hdd
  have hne : dd ≠ dA := fun q => by rw [q, A5] at hdd; cases hdd
  refine wpAny_execs_cons (wpAny_Expr_any (MethodCall_ (nameX_L S10.fr (by rfl) (dUpdM S10 put_self (hed.2 (sk w)) (cwB (wpAny_items_cons (nameX_L S10.fr (by exact ma) (wpAny_items_nil ?_))))))))
  refine dUpd S10 put_self (hed.2 (sk w)) ((put_ne (Ne.symm hne)).trans A5) hex hne (by exact le_line (by simp; omega)) fun s11 o11 S11 hd11 => ?_
  rw [put_put] at S11
  rw [hm] at hd11
  have D11 := D5.new (o := o11) hdd
  have T11 := T5.new (o := o11) hdd
  have hdat : DatO w c d o11 := ⟨ex, t1, t2, hd11, h1, h2, hl⟩
  refine wpAny_execs_cons (wpAny_Assign_Subscript (nameX_L S11.fr (by rfl) (Subscript_ (attrX S11 H FC D11 (by exact ms5) FC.succ (v := .ref (ad5 .sd)) (fun es n h => ddo_succ h) rfl fun s12 S12 => nameX_L S12.fr (by exact mu) ?_))) (by rfl))
  obtain ⟨osd, esd, csd⟩ := D11.at_ .sd trivial
  refine dItem S12 esd csd (intKind_is ..) (by rw [valueAt_map, if_pos uk]) fun s13 S13 => nameX_L S13.fr (by exact mv) ?_
  obtain ⟨oS, eS, cS⟩ := D11.at_ (.S u) uk
  have l1 : ((G5.ord u).map fun k => (k, Value.ref (ad5 (.D u k)))).length ≤ sizeLine := by
    have := le5 (isDict_nodup cS) (by intro k hk; exact D5.ok.ord u k (by simpa using hk))
    exact le_line (by simp at this ⊢; omega)
  refine dSet S13 eS cS (intKind_is ..) l1 fun s14 o14 S14 hd14 => ?_
  have D14 := op_edge D11 uk vn hv5 (D5.fresh hdd) put_self hdat hd14
  have T14 := Step.place (o' := o14) (G' := G5.edge u v c d) T11 (.S u) (.D u v) uk (by intro q; cases q) (a := dd) (.inl (T5.dom _ hdd)) (liveE_)
  refine wpAny_execs_cons (wpAny_Assign_Subscript (nameX_L S14.fr (by rfl) (Subscript_ (attrX S14 H FC D14 (by exact ms5) FC.pred (v := .ref (setA ad5 (.D u v) dd .pd)) (fun es n h => ddo_pred h) rfl fun s15 S15 => nameX_L S15.fr (by exact mv) ?_))) (by rfl))
  obtain ⟨opd, epd, cpd⟩ := D14.at_ .pd trivial
  have vp : v ∈ (G5.edge u v c d).kp := by show v ∈ G5.kp; rw [W5.2]; exact vk
  refine dItem S15 epd cpd (intKind_is ..) (by rw [valueAt_map, if_pos vp]) fun s16 S16 => nameX_L S16.fr (by exact mu) ?_
  obtain ⟨oP, eP, kvs, cP, hkP⟩ := D14.at_ (.P v) vp
  have l2 : kvs.length ≤ sizeLine := by
    have := le5 (isDict_nodup cP) hkP
    exact le_line (by simp at this ⊢; omega)
  refine dSet S16 eP cP (intKind_is ..) l2 fun s17 o17 S17 hd17 => ?_
  have D17 := op_pred D14 vp (kvs := stored kvs u (.ref dd)) (fun k hk => ?_) hd17
  · have T17 := Step.upd (o' := o17) (G' := G5.edge u v c d) T14 (.P v) vp (fun q l => l)
    exact wpAny_execs_nil (post _ _ _ _ S17 D17 T17)
  · rw [stored_keys] at hk
    split at hk
    · exact hkP k hk
    · rcases List.mem_append.mp hk with q | q
      · exact hkP k q
      · cases List.mem_singleton.mp q; exact hu5
end
end Mine
end
section -- EdgeC
open PySem PySem.W PySem.Calls PyProof.Rows PyProof.V
set_option maxRecDepth 100000
set_option linter.unusedVariables false
namespace Mine
section
variable {w : World} {K : Frag} {p : Program} {loose : List Str} {mean : ExcName → Option Value} {mg mb : Str → Option Value}
variable {A : Around} {env : Env} {h₀ : Heap} {L a dA : Addr} {m : Str → Option Value} {μ : Mu} {s0 : Anc} {s : Shared} {ad : Adr} {G : PE} {ccd : Value} {tu tv t1 t2 : Tok} {u v c d : Int} {R : Result → Shared → Prop}

theorem edge_spec1 (FE : FEdge K) (FC : FCls K) (H : Here K p loose mean mg mb A env h₀ L) (S : At s0 h₀ L s m μ) (D : Dr w μ ad G) (W : G.Same)
    (hu5 : 0 ≤ u ∧ u < 5) (hv5 : 0 ≤ v ∧ v < 5) (hnew : v ∉ G.ord u) (hroom : A.depth + 1 < recursionLimit)
    (post : ∀ s' μ' ad', At s0 h₀ L s' m μ' → Dr w μ' ad' (G.addEdge u v c d) → Step μ ad G μ' ad' (G.addEdge u v c d) → R (.ok (.ret .none)) s') :
    codeAny (model P0 w) A (.call (.ref 635) ⟨[.ref (ad .x), .int u tu, .int v tv], [("cw", .int c t1), ("ccw", .int d t2)]⟩) R s := by
  obtain ⟨oc, od, doc, pm, an, cdv, ct, osl, ho, hcd⟩ := FE.edge
  refine call_more (ex := [("cw", .int c t1), ("ccw", .int d t2)]) (nm := "attr") (front := [("self", .ref (ad .x)), ("u_of_edge", .int u tu), ("v_of_edge", .int v tv)])
    H S ho hcd (by omega) (by with_unfolding_all rfl) (by with_unfolding_all rfl) (by with_unfolding_all rfl) (.cons (Flat.int _ _) (.cons (Flat.int _ _) .nil)) (by with_unfolding_all rfl) (by with_unfolding_all rfl) (fun _ => rfl) (fun D => locs (by with_unfolding_all rfl)) (fun DA oA g L' s₁ hDA hoA H' S1 st => ?_) (by decide)
  refine edge_body FE FC H' S1 (D.new hDA) W (by rfl) (by rfl) (by rfl) (by rfl) put_self hoA (D.fresh hDA) (by rfl) (by rfl) (by simp) (by with_unfolding_all rfl) hu5 hv5 hnew (by exact hroom) fun s2 m2 μ2 ad2 S2 D2 T2 => ?_
  exact Back.intro S2 fun k => post s2 μ2 ad2 k D2 (((Step.rfl' μ ad G).new hDA).trans T2)
theorem edge_spec2 (FE : FEdge K) (FC : FCls K) (H : Here K p loose mean mg mb A env h₀ L) (S : At s0 h₀ L s m μ) (D : Dr w μ ad G) (W : G.Same)
    (hu5 : 0 ≤ u ∧ u < 5) (hv5 : 0 ≤ v ∧ v < 5) (hnew : v ∉ G.ord u) (hroom : A.depth + 1 < recursionLimit)
    (post : ∀ s' μ' ad', At s0 h₀ L s' m μ' → Dr w μ' ad' (G.addEdge u v c d) → Step μ ad G μ' ad' (G.addEdge u v c d) → R (.ok (.ret .none)) s') :
    codeAny (model P0 w) A (.call (.ref 635) ⟨[.ref (ad .x), .int u tu, .int v tv], [("ccw", .int d t2), ("cw", .int c t1)]⟩) R s := by
  obtain ⟨oc, od, doc, pm, an, cdv, ct, osl, ho, hcd⟩ := FE.edge
  refine call_more (ex := [("ccw", .int d t2), ("cw", .int c t1)]) (nm := "attr") (front := [("self", .ref (ad .x)), ("u_of_edge", .int u tu), ("v_of_edge", .int v tv)])
    H S ho hcd (by omega) (by with_unfolding_all rfl) (by with_unfolding_all rfl) (by with_unfolding_all rfl) (.cons (Flat.int _ _) (.cons (Flat.int _ _) .nil)) (by with_unfolding_all rfl) (by with_unfolding_all rfl) (fun _ => rfl) (fun D => locs (by with_unfolding_all rfl)) (fun DA oA g L' s₁ hDA hoA H' S1 st => ?_) (by decide)
  refine edge_body FE FC H' S1 (D.new hDA) W (by rfl) (by rfl) (by rfl) (by rfl) put_self hoA (D.fresh hDA) (by rfl) (by rfl) (by simp) (by with_unfolding_all rfl) hu5 hv5 hnew (by exact hroom) fun s2 m2 μ2 ad2 S2 D2 T2 => ?_
  exact Back.intro S2 fun k => post s2 μ2 ad2 k D2 (((Step.rfl' μ ad G).new hDA).trans T2)
end
end Mine
end
section -- Sup
open PySem PySem.W PySem.Calls PyProof.Rows PyProof.V
set_option maxRecDepth 100000
set_option linter.unusedVariables false
namespace Mine

structure SupIn (K : Frag) (nm : Str) (f : Addr) : Prop where
  find : ks_superIn K 906 906 nm = some (some (.ref f))
  typ : typeIn K (.ref f) = some (.type "function")
  fn : fnIn K f = true
structure FSup (K : Frag) : Prop where
  cell : ∃ cl cld csl, K.lookup 768 = some ⟨cl, cld, .cell (some (.ref 906)), csl⟩
  cls : ∃ cd, clsIn K 906 = some cd
  mro : mroIn K 906 (.ref 906) = some true
  sup : nsIn K mainGlobals "super" = some none
  opq : nsIn K cStatics "thirdparty.any" = some none
  edge : SupIn K "add_edge" 635
  init : SupIn K "__init__" 570

def SupFn (K : Frag) (f : Addr) (nm qual : Str) (st : Stmt) (dV kV : Value) (P : FuncData → Prop) : Prop :=
  ∃ oc od doc pm an cda ct osl ccl cdd vs ccs file tf, K.lookup f = some ⟨oc, od, .func (fnX nm qual (sArgs st) (sBody st) (sScope st) [("__class__", 768)] dV kV doc pm an (.ref cda) ct), osl⟩ ∧ codeIn K (.ref cda) qual = true ∧
    K.lookup cda = some ⟨ccl, cdd, .fields vs, ccs⟩ ∧ vs[2]? = some (.str file tf) ∧ ((P0.main.file : Str) == file) = true ∧ P (fnX nm qual (sArgs st) (sBody st) (sScope st) [("__class__", 768)] dV kV doc pm an (.ref cda) ct)

section
variable {w : World} {K : Frag} {p : Program} {loose : List Str} {mean : ExcName → Option Value} {mg mb : Str → Option Value}
variable {A A' : Around} {env env' : Env} {h₀ : Heap} {L : Addr} {m : Str → Option Value} {μ : Mu} {s0 : Anc} {s : Shared} {E : Value → Shared → Prop} {ad : Adr} {G : PE}
  {R : Result → Shared → Prop} {name qual : Str} {params : Arguments} {body : List Stmt} {scope : Scope} {dV kV doc pm cdv ct oc : Value} {an od : Option Addr} {osl : Array (Option Value)} {f : Addr} {args : Args} {binds : List (Str × Value)}

theorem call_sup (H : Here K p loose mean mg mb A env h₀ L) (S : At s0 h₀ L s m μ)
    (ho : K.lookup f = some ⟨oc, od, .func (fnX name qual params body scope [("__class__", 768)] dV kV doc pm an cdv ct), osl⟩) (hcd : codeIn K cdv qual = true) (hroom : A.depth < recursionLimit)
    (hbind : BindsTo s (fnX name qual params body scope [("__class__", 768)] dV kV doc pm an cdv ct) args binds) (hloc : ∀ y ∈ binds, scope.names.lookup y.1 = some .local)
    (h : ∀ g L' s₁, Here K p loose mean mg mb (A.deeper (ksEnv qual scope L' f cdv 768)) (ksEnv qual scope L' f cdv 768) g L' → At s0 g L' s₁ (fun y => binds.reverse.lookup y) μ → h₀.StaysIn g →
      _root_.PySem.wpAt (model P0 w) (A.deeper (ksEnv qual scope L' f cdv 768)) (.func body (ksEnv qual scope L' f cdv 768)) (execs body (ksEnv qual scope L' f cdv 768))
        (fun fl s' => Back s0 h₀ L m g L' R (match fl with | .ret v => v | _ => .none) s')
        (fun e s' => wpAny (model P0 w) (A.deeper (ksEnv qual scope L' f cdv 768)) (leaving (ksEnv qual scope L' f cdv 768) e) (fun _ s'' => R (.error e) s'') (fun e' s'' => R (.error e') s'') s')
        s₁)
    (hcell : ∀ x ∈ scope.names, x.2 ≠ .cell) (hco : scope.isCoroutine = false := by rfl) (hgen : scope.isGenerator = false := by rfl) (hk : scope.kind = .function := by rfl) :
    codeAny (model P0 w) A (.call (.ref f) args) R s := by
  obtain ⟨A₀, base, outer, B, hA⟩ := H.below
  refine ks_code_super B S.fr H.X S.sit.news H.T hA H.frame H.kind ho hcd hroom hbind hloc (fun g L' h₁ FG F' N' B' X' T' l => ?_) hcell hco hgen hk
  have st : h₀.StaysIn g := fun b x e => FG.keep b x e
  refine ks_wpAt_mono (h g L' _ ⟨X', T', ⟨_, _, _, B', Around.frames_deeper hA⟩, rfl, hk, H.hand⟩ ⟨sit_of F' N' (fun a o e => S.sit.lt e) S.sit.low (Nat.lt_of_lt_of_le (modules_low T'.nolimit) F'.above), S.kp⟩ st) (fun fl s' hb => ?_) fun _ _ y => y
  obtain ⟨m', μ', S', k⟩ := hb
  exact ⟨L', m', lst μ' s'.heap.objs.size, S'.fr, S'.sit.news, fun F N => k ⟨sit_of F N (fun a o e => S'.sit.lt e) S'.sit.low S.sit.big, S'.kp⟩⟩

theorem super_node {whole : Sem Value} {nm : Str} {p0 p1 : Pos} {ar : Arg} {ccl : Value} {cdd : Option Addr} {ccs : Array (Option Value)} {vs : Array Value} {file : Str} {tf : Tok} {cda : Addr} {Q : Value → Shared → Prop}
    (FS : FSup K) (FC : FCls K) (H : Here K p loose mean mg mb A' env' h₀ L) (S : At s0 h₀ L s m μ) (D : Dr w μ ad G)
    (ho : K.lookup f = some ⟨oc, od, .func (fnX name qual params body scope [("__class__", 768)] dV kV doc pm an (.ref cda) ct), osl⟩) (hp : (params.posonlyargs ++ params.args).head? = some ar) (hv : m ar.arg = some (.ref (ad .x)))
    (hcode : K.lookup cda = some ⟨ccl, cdd, .fields vs, ccs⟩) (hvs : vs[2]? = some (.str file tf)) (hfile : ((P0.main.file : Str) == file) = true)
    (h : ∀ so s', μ so = none → At s0 h₀ L s' m (put μ so (ks_superObj 906 (ad .x) 906)) → Q (.ref so) s')
    (hat : (nm == ("__class__" : Str)) = false := by decide) (hks : scope.names.lookup ("super" : Str) = some .globalImplicit := by rfl) (hkc : scope.names.lookup ("__class__" : Str) = some .free := by rfl) (hka : scope.names.lookup ar.arg = some .local := by rfl) (hk : scope.kind = .function := by rfl)
    (htop : (P0.main.scope.names.lookup ("super" : Str)).isSome = false := by decide +kernel) (hboot : bootBuiltins "super" = some (.type "super") := by decide +kernel) :
    _root_.PySem.wpAt (model P0 w) A (.func body (ksEnv qual scope L f (.ref cda) 768)) (attributeBase (.Call (.Name "super" p0) [] [] p1) nm (ksEnv qual scope L f (.ref cda) 768) whole) Q E s := by
  obtain ⟨es, n, hD, I⟩ := D.inst S
  obtain ⟨cl, cld, csl, hcell⟩ := FS.cell
  obtain ⟨cdD, hcls⟩ := FS.cls
  have X : K.In s.heap := H.X.keeps S.fr.keep
  have hF := S.fr
  obtain ⟨hh, g, d, t, os⟩ := s
  obtain ⟨oD, hD1, hD2⟩ : ∃ oD, hh.get? 906 = some oD ∧ oD.data = .cls cdD := by
    unfold clsIn at hcls
    split at hcls
    · rename_i c d cd' sl ho
      cases hcls
      exact ⟨_, X _ _ ho, rfl⟩
    · cases hcls
  refine ks_wpAt_super_base (env := ksEnv qual scope L f (.ref cda) 768) hks hkc hat rfl (X _ _ ho) rfl hp rfl (X _ _ hcode) rfl hvs hfile htop ?_
  refine ks_loadName_global hk hks (loadGlobal_builtin (env := ksEnv qual scope L f (.ref cda) 768) (H.T.g.keeps hF.keep) (mg_none_of H.X H.T.g FS.sup) (H.T.b.keeps hF.keep) ((H.T.builtins _ (by decide +kernel)).trans hboot) ⟨rfl, ?_⟩)
  refine wpAny_loadName_free hk hkc rfl ⟨_, X _ _ hcell, rfl⟩ ?_
  refine wpAny_loadName_local hk hka hF.ns hv ?_
  refine ks_wpAny_isType_cls hD1 hD2 ⟨rfl, ?_⟩
  refine ks_wpAny_call_super hD1 hD2 I.at_ I.cls (fun c e => ?_) (looks_mroIn X FS.mro) (fun h' e k => ?_)
  · have := I.no
    unfold notCls at this
    rw [e] at this
    exact Bool.noConfusion this
  · exact h _ _ S.sit.new_none ⟨S.sit.grow1 k (Nat.le_refl _) e, S.kp⟩

theorem super_meth {nm : Str} {so f2 : Addr} {pl : Sem Bool} {Q : Value × List Value → Shared → Prop} (FS : FSup K) (FC : FCls K) (H : Here K p loose mean mg mb A' env' h₀ L) (S : At s0 h₀ L s m μ) (D : Dr w μ ad G)
    (hso : μ so = some (ks_superObj 906 (ad .x) 906)) (hm : SupIn K nm f2) (hn : (nm == ("__class__" : Str)) = false)
    (h : ∀ q s', μ q = none → At s0 h₀ L s' m (put μ q (methodObj (.ref f2) (.ref (ad .x)))) → Q (.ref q, []) s') : wpAny (model P0 w) A (getMethod (.ref so) nm pl) Q E s := by
  obtain ⟨es, n, hD, I⟩ := D.inst S
  obtain ⟨cd, hc⟩ := FS.cls
  have X : K.In s.heap := H.X.keeps S.fr.keep
  have hS := S.sit
  have e1 := S.get hso
  have kp := S.kp
  clear S
  obtain ⟨hh, g, d, t, os⟩ := s
  have hm1 := hm.find
  unfold ks_superIn at hm1
  rw [hc] at hm1
  obtain ⟨of, hof, hofc⟩ : ∃ of, hh.get? f2 = some of ∧ of.cls = .type "function" := by
    have ht' : (K.lookup f2).map (·.cls) = some (.type "function") := hm.typ
    cases z : K.lookup f2 with
    | none => rw [z] at ht'; cases ht'
    | some of => rw [z] at ht'; exact ⟨of, X _ _ z, Option.some.inj ht'⟩
  refine ks_wpAny_getMethod_super e1 (looks_opaque X FS.opq) (l₀ := cd.mro) ?_ rfl X hm1 hof hofc (ks_ne X I hc) hn ?_
  · exact fun A Q E s k q => wpAny_bind ((looks_clsIn X hc) A _ E s k (wpAny_pure q))
  · exact h _ _ hS.new_none ⟨hS.push _, kp⟩

theorem super_call {nm : Str} {p0 p1 apos pos pos2 : Pos} {e : PySem.Expr} {rest : List PySem.Expr} {kws : List Keyword} {ar : Arg} {ccl : Value} {cdd : Option Addr} {ccs : Array (Option Value)} {vs : Array Value} {file : Str} {tf : Tok} {cda f2 : Addr} {pl : Sem Bool} {Q : Flow → Shared → Prop}
    (FS : FSup K) (FC : FCls K) (H : Here K p loose mean mg mb A' env' h₀ L) (S : At s0 h₀ L s m μ) (D : Dr w μ ad G) (hm : SupIn K nm f2)
    (ho : K.lookup f = some ⟨oc, od, .func (fnX name qual params body scope [("__class__", 768)] dV kV doc pm an (.ref cda) ct), osl⟩) (hp : (params.posonlyargs ++ params.args).head? = some ar) (hv : m ar.arg = some (.ref (ad .x)))
    (hcode : K.lookup cda = some ⟨ccl, cdd, .fields vs, ccs⟩) (hvs : vs[2]? = some (.str file tf)) (hfile : ((P0.main.file : Str) == file) = true)
    (hall : (backToKw pos (keywordEach kws (ksEnv qual scope L f (.ref cda) 768))).all (·.1.isSome) = true)
    (h : ∀ s1 μ1, At s0 h₀ L s1 m μ1 → wpAny (model P0 w) A (spliced (backTo pos (starEach (e :: rest) (ksEnv qual scope L f (.ref cda) 768)))) (fun vs s2 => wpAny (model P0 w) A (evalAll ((backToKw pos (keywordEach kws (ksEnv qual scope L f (.ref cda) 768))).map (·.2)))
      (fun ks s3 => ∃ m', At s0 h₀ L s3 m' μ1 ∧ (At s0 h₀ L s3 m' μ → codeAny (model P0 w) A (.call (.ref f2) ⟨.ref (ad .x) :: vs, ((backToKw pos (keywordEach kws (ksEnv qual scope L f (.ref cda) 768))).filterMap (·.1)).zip ks⟩) (fun r s' => match r with | .ok (.ret v) => Q .next s' | .ok _ => False | .error e => E e s') s3)) E s2) E s1)
    (hplain : ((backTo pos (starEach (e :: rest) (ksEnv qual scope L f (.ref cda) 768))).any (·.1) || (backToKw pos (keywordEach kws (ksEnv qual scope L f (.ref cda) 768))).any (·.1.isNone)) = false := by rfl)
    (hst : starEach (e :: rest) (ksEnv qual scope L f (.ref cda) 768) = (false, eval e (ksEnv qual scope L f (.ref cda) 768)) :: starEach rest (ksEnv qual scope L f (.ref cda) 768) := by rfl)
    (hi : interactive (ksEnv qual scope L f (.ref cda) 768) = false := by rfl)
    (hs : swapsWith (.Call (.Attribute (.Call (.Name "super" p0) [] [] p1) nm apos) (e :: rest) kws pos) none pos2.line (ksEnv qual scope L f (.ref cda) 768) = pure false := by rfl)
    (he : eval (.Call (.Attribute (.Call (.Name "super" p0) [] [] p1) nm apos) (e :: rest) kws pos) (ksEnv qual scope L f (.ref cda) 768) = (do
      let ov ← attributeBase (.Call (.Name "super" p0) [] [] p1) nm (ksEnv qual scope L f (.ref cda) 768) (eval (.Call (.Name "super" p0) [] [] p1) (ksEnv qual scope L f (.ref cda) 768))
      standAt apos.atName
      let (fv, first) ← holding [ov] (getMethod ov nm pl)
      callWith pos fv first (backTo pos (starEach (e :: rest) (ksEnv qual scope L f (.ref cda) 768))) (backToKw pos (keywordEach kws (ksEnv qual scope L f (.ref cda) 768)))) := by rfl)
    (hat : (nm == ("__class__" : Str)) = false := by decide) (hks : scope.names.lookup ("super" : Str) = some .globalImplicit := by rfl) (hkc : scope.names.lookup ("__class__" : Str) = some .free := by rfl) (hka : scope.names.lookup ar.arg = some .local := by rfl) (hk : scope.kind = .function := by rfl) :
    _root_.PySem.wpAt (model P0 w) A (.func body (ksEnv qual scope L f (.ref cda) 768)) (exec (.Expr (.Call (.Attribute (.Call (.Name "super" p0) [] [] p1) nm apos) (e :: rest) kws pos) pos2) (ksEnv qual scope L f (.ref cda) 768)) Q E s := by
  refine ks_wpAt_Expr_any ?_ hi hs
  rw [he]
  refine _root_.PySem.wpAt_bind (super_node FS FC H S D ho hp hv hcode hvs hfile (fun so s1 hso S1 => ?_) hat hks hkc hka hk)
  refine _root_.PySem.wpAt_of_wpAny (wpAny_bind (wpAny_standAt (wpAny_bind (wpAny_holding ?_))))
  refine super_meth FS FC H S1 (D.new hso) put_self hm hat fun q s2 hq S2 => ?_
  have X : ∀ h, (∃ s m', s.heap = h ∧ At s0 h₀ L s m' (put (put μ so (ks_superObj 906 (ad .x) 906)) q (methodObj (.ref f2) (.ref (ad .x))))) → MethP K q f2 (.ref (ad .x)) h := by
    rintro h ⟨s, m', rfl, S⟩
    exact ⟨S.get put_self, H.X.keeps S.fr.keep⟩
  refine callWith_of (P := fun h => MethP K q f2 (.ref (ad .x)) h) hplain (keeps_M hm.fn) (evalArgs_kw2 hall ?_ hst)
  refine wpAny_mono (h s2 _ S2) (fun vs s3 h3 => wpAny_mono h3 (fun ks s4 h4 => ?_) fun _ _ x => x) fun _ _ x => x
  obtain ⟨m', S4, k⟩ := h4
  refine ⟨⟨S4.get put_self, H.X.keeps S4.fr.keep⟩, ?_⟩
  refine wpAny_call (method_call (S4.get put_self) ?_)
  refine codeAny_mono (k (S4.sub fun b ob e => ?_)) fun r s' hr => ?_
  · have h1 : b ≠ so := fun z => by rw [z, hso] at e; cases e
    have h2 : b ≠ q := fun z => by rw [z] at e; rw [put_ne (fun y => h1 (z.trans y)), e] at hq; cases hq
    rw [put_ne h2, put_ne h1]; exact e
  · cases r with
    | error e => exact hr
    | ok fl => cases fl <;> exact hr
end
end Mine
end
section -- HalfR
open PySem PySem.W PySem.Calls PyProof.Rows PyProof.V
set_option maxRecDepth 100000
set_option linter.unusedVariables false
namespace Mine

def halfBinds (x a b c d : Value) : List (Str × Value) := [("self", x), ("start_node", a), ("end_node", b), ("cw", c), ("ccw", d)]
structure FHalf (K : Frag) : Prop where
  half : SupFn K 825 "add_half_edge" "PlanarEmbedding.add_half_edge" (inS 16 6) .none (.ref 817) (fun fd => ∀ S x a b c d,
    peek K S (bindArgs fd ⟨[x, a, b], [("cw", c)]⟩) = some (halfBinds x a b c .none) ∧
    peek K S (bindArgs fd ⟨[x, a, b], [("ccw", d)]⟩) = some (halfBinds x a b .none d) ∧
    peek K S (bindArgs fd ⟨[x, a, b], [("cw", c), ("ccw", d)]⟩) = some (halfBinds x a b c d) ∧
    peek K S (bindArgs fd ⟨[x, a, b], []⟩) = some (halfBinds x a b .none .none))
  list : nsIn K mainGlobals "list" = some none

def PE.mv (G : PE) (u l : Int) : PE := (G.pop u l).edge u l (G.cw u l) (G.ccw u l)
def PE.halfCw (G : PE) (a b c : Int) : PE :=
  let G1 := ((G.addEdge a b c (G.ccw a c)).setCw a (G.ccw a c) b).setCcw a c b
  if c = (G.ord a).getLast! then G1 else G1.mv a (G.ord a).getLast!
def PE.halfCcw (G : PE) (a b d : Int) : PE :=
  (((G.addEdge a b (G.cw a d) d).setCcw a (G.cw a d) b).setCw a d b).mv a (G.ord a).getLast!

abbrev halfEnv (L cda : Addr) : Env := ksEnv "PlanarEmbedding.add_half_edge" (sScope (inS 16 6)) L 825 (.ref cda) 768

section
variable {w : World} {K : Frag} {p : Program} {loose : List Str} {mean : ExcName → Option Value} {mg mb : Str → Option Value}
variable {A A' : Around} {env env' : Env} {h₀ : Heap} {L : Addr} {m : Str → Option Value} {μ : Mu} {s0 : Anc} {s : Shared} {E : Value → Shared → Prop} {ad : Adr} {G : PE} {R : Result → Shared → Prop}
  {a : Addr} {cn : Str} {cs : Scope} {ccd : Value} {cl : List (Str × Addr)}

theorem callT {x : Str} {np pos : Pos} (T : String) {e : PySem.Expr} {args : List PySem.Expr} {Q : Value → Shared → Prop}
    (S : At s0 h₀ L s m μ) (H : Here K p loose mean mg mb A' env' h₀ L) (hn : nsIn K mainGlobals x = some none) (hv : bootBuiltins x = some (.type T)) (hnn : x ≠ "__name__")
    (h : wpAny (model P0 w) A (spliced (backTo pos (starEach (e :: args) (envX cn cs L a ccd cl)))) (fun vs s₁ => wpAny (model P0 w) A (call (.type T) vs) Q E s₁) E s)
    (hk : cs.kind = .function := by rfl) (hx : (envX cn cs L a ccd cl).kindOf x = some .globalImplicit := by rfl) (hd : (x == ("__debug__" : Str)) = false := by decide)
    (he : starEach (e :: args) (envX cn cs L a ccd cl) = (false, eval e (envX cn cs L a ccd cl)) :: starEach args (envX cn cs L a ccd cl) := by rfl) (hp : (backTo pos (starEach args (envX cn cs L a ccd cl))).any (·.1) = false := by rfl) :
    wpAny (model P0 w) A (eval (.Call (.Name x np) (e :: args) [] pos) (envX cn cs L a ccd cl)) Q E s := by
  refine Call_ (nameX_B S.fr H.X (topRead_of H.T) hn hv hnn ?_ hk hx hd)
  rw [he] at h ⊢
  refine PySem.callWith_type (by show (false || (backTo pos (starEach args _)).any (·.1)) = false; rw [hp]; rfl) (evalArgs_plain ?_)
  exact h
theorem subNeg {value slice : PySem.Expr} {l : Addr} {items : Array Value} {k : Int} {u : Tok} (x : Value) {Q : Value → Shared → Prop} (hl : s.heap.IsList l items)
    (h0 : k < 0) (h1 : -(items.size : Int) ≤ k) (hfit : -(2 ^ 63) ≤ k) (hx : items[(k + items.size).toNat]? = some x) (h : Q x s)
    (hs : subscripted slice false (.ref l) (.int k u) = operate [.ref l, .int k u] (getItem (.ref l) (.int k u)) := by with_unfolding_all rfl) :
    wpAny (model P0 w) A (subscriptTail value slice (.ref l) (.int k u)) Q E s :=
  tail_any hl.typeIs slot_list_getitem.lookup (wpAny_getItem_list_neg hl h0 h1 hfit hx h) hs
theorem negI {x : Int} {t : Tok} {Q : Value → Shared → Prop} (S : At s0 h₀ L s m μ) (h : ∀ t s', At s0 h₀ L s' m μ → Q (.int (-x) t) s') :
    wpAny (model P0 w) A (unaryOp .USub (.int x t)) Q E s := PyProof.Rows.neg_int (h _ _ (S.toks _))
theorem getLast!_eq {l : List Int} (h : l ≠ []) : l.getLast! = l.getLast h := by
  cases l with
  | nil => exact absurd rfl h
  | cons a l => rfl

theorem lastKey {value slice : PySem.Expr} {l : Addr} {ol : Obj} {vs : List Value} {g : Int → Value} {ks : List Int} {u : Tok} {Q : Value → Shared → Prop} (S : At s0 h₀ L s m (put μ l ol)) (hl : LO vs ol) (hlen : vs.length = (ks.map fun v => (v, g v)).length)
    (hv : ∀ (i : Nat) (v : Value), vs[i]? = some v → ∃ k x, (ks.map fun v => (v, g v))[i]? = some (k, x) ∧ (ik w).is k v = true) (hne : ks ≠ []) (h5 : ks.length ≤ 5) (h : ∀ t, Q (.int (ks.getLast hne) t) s)
    (hs : subscripted slice false (.ref l) (.int (-1) u) = operate [.ref l, .int (-1) u] (getItem (.ref l) (.int (-1) u)) := by with_unfolding_all rfl) :
    wpAny (model P0 w) A (subscriptTail value slice (.ref l) (.int (-1) u)) Q E s := by
  have hpos : 0 < ks.length := List.length_pos_iff.mpr hne
  have hlen' : vs.length = ks.length := by simpa using hlen
  obtain ⟨k, x, e1, e2⟩ := hv (ks.length - 1) vs[ks.length - 1] (by simp)
  have hk : k = ks.getLast hne := by
    rw [List.getElem?_map, Option.map_eq_some_iff] at e1
    obtain ⟨y, ey, q⟩ := e1
    cases q
    rw [List.getLast_eq_getElem]
    rw [List.getElem?_eq_getElem (by omega)] at ey
    exact (Option.some.inj ey).symm
  obtain ⟨t, et⟩ : ∃ t, vs[ks.length - 1] = .int k t := by
    have : Value.isInt k vs[ks.length - 1] = true := e2
    generalize vs[ks.length - 1] = z at this
    cases z <;> simp [Value.isInt] at this
    rename_i i t
    exact ⟨t, by rw [this]⟩
  refine subNeg (.int k t) (hl.isList (S.get put_self)) (by decide) (by rw [List.size_toArray]; omega) (by decide) ?_ (hk ▸ h t) hs
  have : ((-1 : Int) + (vs.toArray.size : Int)).toNat = ks.length - 1 := by rw [List.size_toArray]; omega
  rw [this, List.getElem?_toArray, List.getElem?_eq_getElem (by omega), et]

theorem cStr {x : Str} {k : Nat} {pos : Pos} {env : Env} {Q : Value → Shared → Prop} (S : At s0 h₀ L s m μ) (h : ∀ t s', At s0 h₀ L s' m μ → Q (.str x t) s') :
    wpAny (model P0 w) A (eval (.Constant (.str x) k pos) env) Q E s := wpAny_Constant_str (h _ _ (S.toks _))

section
variable {u k x : Int} {t tx : Tok} {value slice : PySem.Expr}
theorem map_fst_nodup {l : List Int} {g : Int → Value} {o : Obj} (h : o.IsDictOf (ik w) (l.map fun k => (k, g k))) : l.Nodup := by
  have := isDict_nodup h
  rwa [List.map_map, show ((fun x : Int × Value => x.1) ∘ fun k => (k, g k)) = id from rfl, List.map_id] at this
theorem Dr.ksOf (D : Dr w μ ad G) (h : k ∈ G.ord u) : u ∈ G.ks := Classical.byContradiction fun q => by rw [D.ok.out u q] at h; cases h
theorem Dr.len5 (D : Dr w μ ad G) (u : Int) : (G.ord u).length ≤ 5 := by
  by_cases h : u ∈ G.ks
  · obtain ⟨oS, eS, cS⟩ := D.at_ (.S u) h
    exact le5 (map_fst_nodup cS) (D.ok.ord u)
  · rw [D.ok.out u h]; simp
theorem Dr.nodup (D : Dr w μ ad G) (u : Int) : (G.ord u).Nodup := by
  by_cases h : u ∈ G.ks
  · obtain ⟨oS, eS, cS⟩ := D.at_ (.S u) h
    exact map_fst_nodup cS
  · rw [D.ok.out u h]; exact List.nodup_nil
theorem succsItem {Q : Value → Shared → Prop} (S : At s0 h₀ L s m μ) (D : Dr w μ ad G) (hk : k ∈ G.ord u) (h : ∀ s', At s0 h₀ L s' m μ → Q (.ref (ad (.D u k))) s')
    (hs : subscripted slice false (.ref (ad (.S u))) (.int k t) = operate [.ref (ad (.S u)), .int k t] (getItem (.ref (ad (.S u))) (.int k t)) := by with_unfolding_all rfl) :
    wpAny (model P0 w) A (subscriptTail value slice (.ref (ad (.S u))) (.int k t)) Q E s := by
  obtain ⟨oS, eS, cS⟩ := D.at_ (.S u) (D.ksOf hk)
  exact dItem S eS cS (intKind_is ..) (by rw [valueAt_map, if_pos hk]) h hs
theorem readCw {Q : Value → Shared → Prop} (S : At s0 h₀ L s m μ) (D : Dr w μ ad G) (hk : k ∈ G.ord u) (h : ∀ t s', At s0 h₀ L s' m μ → Q (.int (G.cw u k) t) s')
    (hs : subscripted slice false (.ref (ad (.D u k))) (.str "cw" t) = operate [.ref (ad (.D u k)), .str "cw" t] (getItem (.ref (ad (.D u k))) (.str "cw" t)) := by with_unfolding_all rfl) :
    wpAny (model P0 w) A (subscriptTail value slice (.ref (ad (.D u k))) (.str "cw" t)) Q E s := by
  obtain ⟨o, e, kvs, t1, t2, hd, h1, h2, hl⟩ := D.at_ (.D u k) hk
  exact dItem S e hd (strKind_is ..) h1 (fun s' S' => h t1 s' S') hs
theorem readCcw {Q : Value → Shared → Prop} (S : At s0 h₀ L s m μ) (D : Dr w μ ad G) (hk : k ∈ G.ord u) (h : ∀ t s', At s0 h₀ L s' m μ → Q (.int (G.ccw u k) t) s')
    (hs : subscripted slice false (.ref (ad (.D u k))) (.str "ccw" t) = operate [.ref (ad (.D u k)), .str "ccw" t] (getItem (.ref (ad (.D u k))) (.str "ccw" t)) := by with_unfolding_all rfl) :
    wpAny (model P0 w) A (subscriptTail value slice (.ref (ad (.D u k))) (.str "ccw" t)) Q E s := by
  obtain ⟨o, e, kvs, t1, t2, hd, h1, h2, hl⟩ := D.at_ (.D u k) hk
  exact dItem S e hd (strKind_is ..) h2 (fun s' S' => h t2 s' S') hs
theorem dat_len {kvs : List (Str × Value)} {y : Str} {v v' : Value} (h : valueAt kvs y = some v') (hl : kvs.length ≤ 2) : (stored kvs y v).length ≤ 2 := by
  have : y ∈ kvs.map (·.1) := by
    unfold valueAt at h
    obtain ⟨x, hx, _⟩ := Option.map_eq_some_iff.mp h
    have := List.find?_some hx
    exact List.mem_map.mpr ⟨x, List.mem_of_find?_eq_some hx, of_decide_eq_true this⟩
  have e := stored_keys (kvs := kvs) (k := y) (v := v)
  rw [if_pos this] at e
  have := congrArg List.length e
  simp at this
  omega
theorem setCwR {Q : Unit → Shared → Prop} (S : At s0 h₀ L s m μ) (D : Dr w μ ad G) (hk : k ∈ G.ord u) (h : ∀ s' o', At s0 h₀ L s' m (put μ (ad (.D u k)) o') → Dr w (put μ (ad (.D u k)) o') ad (G.setCw u k x) → Q () s') :
    wpAny (model P0 w) A (setItem (.ref (ad (.D u k))) (.str "cw" t) (.int x tx)) Q E s := by
  obtain ⟨o, e, kvs, t1, t2, hd, h1, h2, hl⟩ := D.at_ (.D u k) hk
  refine dSet S e hd (strKind_is ..) (le_line (by omega)) fun s' o' S' hd' => h s' o' S' (op_cw D hk ⟨_, tx, t2, hd', ?_, ?_, dat_len h1 hl⟩)
  · rw [valueAt_stored, if_pos rfl]
  · rw [valueAt_stored, if_neg (by decide)]; exact h2
theorem setCcwR {Q : Unit → Shared → Prop} (S : At s0 h₀ L s m μ) (D : Dr w μ ad G) (hk : k ∈ G.ord u) (h : ∀ s' o', At s0 h₀ L s' m (put μ (ad (.D u k)) o') → Dr w (put μ (ad (.D u k)) o') ad (G.setCcw u k x) → Q () s') :
    wpAny (model P0 w) A (setItem (.ref (ad (.D u k))) (.str "ccw" t) (.int x tx)) Q E s := by
  obtain ⟨o, e, kvs, t1, t2, hd, h1, h2, hl⟩ := D.at_ (.D u k) hk
  refine dSet S e hd (strKind_is ..) (le_line (by omega)) fun s' o' S' hd' => h s' o' S' (op_ccw D hk ⟨_, t1, tx, hd', ?_, ?_, dat_len h2 hl⟩)
  · rw [valueAt_stored, if_neg (by decide)]; exact h1
  · rw [valueAt_stored, if_pos rfl]
theorem popR {Q : Value → Shared → Prop} (S : At s0 h₀ L s m μ) (D : Dr w μ ad G) (hk : k ∈ G.ord u) (h : ∀ s' o', At s0 h₀ L s' m (put μ (ad (.S u)) o') → Dr w (put μ (ad (.S u)) o') ad (G.pop u k) → Q (.ref (ad (.D u k))) s') :
    wpAny (model P0 w) A (call (.builtin "dict.pop") [.ref (ad (.S u)), .int k t]) Q E s := by
  obtain ⟨oS, eS, cS⟩ := D.at_ (.S u) (D.ksOf hk)
  exact dPop S eS cS (intKind_is ..) (by rfl) (le_line (by have := D.len5 u; simp; omega)) (by rw [valueAt_map, if_pos hk]) fun s' o' S' hd' => h s' o' S' (op_pop D (D.ksOf hk) hd')
theorem putR {Q : Unit → Shared → Prop} {b : Addr} {on : Obj} {c d : Int} (S : At s0 h₀ L s m μ) (D : Dr w μ ad G) (hu : u ∈ G.ks) (hk : k ∉ G.ord u) (h5 : 0 ≤ k ∧ k < 5) (hb : ¬ Fp ad G b) (hon : μ b = some on) (he : DatO w c d on)
    (h : ∀ s' o', At s0 h₀ L s' m (put μ (ad (.S u)) o') → Dr w (put μ (ad (.S u)) o') (setA ad (.D u k) b) (G.edge u k c d) → Q () s') :
    wpAny (model P0 w) A (setItem (.ref (ad (.S u))) (.int k t) (.ref b)) Q E s := by
  obtain ⟨oS, eS, cS⟩ := D.at_ (.S u) hu
  exact dSet S eS cS (intKind_is ..) (le_line (by have := D.len5 u; simp; omega)) fun s' o' S' hd' => h s' o' S' (op_edge D hu hk h5 hb hon he hd')
theorem pop_gone (D : Dr w μ ad G) (hk : k ∈ G.ord u) : ¬ Fp ad (G.pop u k) (ad (.D u k)) := by
  rintro ⟨r, l, e⟩
  have mem : ∀ q, Live (G.pop u k) q → Live G q := fun q l => by
    cases q <;> first | exact l | skip
    rename_i y j
    by_cases q : y = u
    · subst q
      have l : j ∈ (G.pop y k).ord y := l
      rw [show (G.pop y k).ord y = (G.ord y).filter fun z => decide (z ≠ k) from set1_self ..] at l
      exact (List.mem_filter.mp l).1
    · have l : j ∈ (G.pop u k).ord y := l
      rwa [show (G.pop u k).ord y = G.ord y from set1_ne q] at l
  have := D.inj r (.D u k) (mem r l) hk e
  subst this
  have l : k ∈ (G.pop u k).ord u := l
  rw [show (G.pop u k).ord u = (G.ord u).filter fun z => decide (z ≠ k) from set1_self ..] at l
  exact of_decide_eq_true (List.mem_filter.mp l).2 rfl
theorem pop_live (q : Role) (l : Live (G.pop u k) q) : Live G q := by
  cases q <;> first | exact l | skip
  rename_i y j
  by_cases q : y = u
  · subst q
    have l : j ∈ (G.pop y k).ord y := l
    rw [show (G.pop y k).ord y = (G.ord y).filter fun z => decide (z ≠ k) from set1_self ..] at l
    exact (List.mem_filter.mp l).1
  · have l : j ∈ (G.pop u k).ord y := l
    rwa [show (G.pop u k).ord y = G.ord y from set1_ne q] at l
end
end
end Mine
end
section -- Half
open PySem PySem.W PySem.Calls PyProof.Rows PyProof.V
set_option maxRecDepth 100000
set_option linter.unusedVariables false
namespace Mine
section
variable {w : World} {K : Frag} {p : Program} {loose : List Str} {mean : ExcName → Option Value} {mg mb : Str → Option Value}
variable {A A' : Around} {env env' : Env} {h₀ : Heap} {L : Addr} {m : Str → Option Value} {μ : Mu} {s0 : Anc} {s : Shared} {E : Value → Shared → Prop} {ad : Adr} {G : PE} {R : Result → Shared → Prop}

theorem half_cw {a b c : Int} {ta tb tc : Tok} (FE : FEdge K) (FC : FCls K) (FS : FSup K) (FH : FHalf K) (H : Here K p loose mean mg mb A env h₀ L) (S : At s0 h₀ L s m μ) (D : Dr w μ ad G) (W : G.Same)
    (ha5 : 0 ≤ a ∧ a < 5) (hb5 : 0 ≤ b ∧ b < 5) (hnew : b ∉ G.ord a) (hc : c ∈ G.ord a) (hcc : G.ccw a c ∈ G.ord a) (hroom : A.depth + 2 < recursionLimit)
    (post : ∀ s' μ' ad', At s0 h₀ L s' m μ' → Dr w μ' ad' (G.halfCw a b c) → Step μ ad G μ' ad' (G.halfCw a b c) → R (.ok (.ret .none)) s') :
    codeAny (model P0 w) A (.call (.ref 825) ⟨[.ref (ad .x), .int a ta, .int b tb], [("cw", .int c tc)]⟩) R s := by
  obtain ⟨oc, od, doc, pm, an, cda, ct, osl, ccl, cdd, vs, ccs, file, tf, ho, hcd, hcode, hvs, hfile, hb⟩ := FH.half
  refine call_sup (binds := halfBinds (.ref (ad .x)) (.int a ta) (.int b tb) (.int c tc) .none) H S ho hcd (by omega) (kp_binds (H.X.keeps S.fr.keep) fun Sg => (hb Sg _ _ _ (.int c tc) .none).1) (locs (by with_unfolding_all rfl)) (fun g L' s₁ H' S1 _ => ?_) (by decide)
  have hak : a ∈ G.ks := D.ksOf hc
  have hne : G.ord a ≠ [] := List.ne_nil_of_mem hc
  refine ks_wpAt_execs_cons (_root_.PySem.wpAt_of_wpAny (wpAny_Assign_Name (MethodCall_ (attrX S1 H' FC D (by rfl) FC.succ (v := .ref (ad .sd)) (fun es n h => ddo_succ h) rfl fun s2 S2 => ?_))))
  obtain ⟨osd, esd, csd⟩ := D.at_ .sd trivial
  refine dGetM S2 esd csd (cwB (wpAny_items_cons (nameX_L S2.fr (by rfl) (wpAny_items_nil ?_))))
  refine dGet1 S2 esd csd (intKind_is ..) fun s3 S3 => ?_
  rw [valueAt_map, if_pos hak]
  refine stL S3 fun s4 S4 => ?_
  clear S1 S2 S3
  refine ks_wpAt_execs_cons (ks_wpAt_If (_root_.PySem.wpAt_of_wpAny (wpAny_isTrue_value (nameX_L S4.fr (by rfl) ?_))))
  obtain ⟨oS, eS, cS⟩ := D.at_ (.S a) hak
  have l1 : ((G.ord a).map fun k => (k, Value.ref (ad (.D a k)))).length ≤ sizeLine := le_line (by have := D.len5 a; simp; omega)
  refine dTruth S4 eS cS l1 fun s5 S5 => ?_
  rw [if_pos (by simp [hne])]
  clear S4
  refine ks_wpAt_execs_cons (_root_.PySem.wpAt_of_wpAny (wpAny_Assign_Name (Subscript_ (callT "list" S5 H' FH.list (by decide +kernel) (by decide) (wpAny_items_cons (Subscript_ (attrX S5 H' FC D (by rfl) FC.succ (v := .ref (ad .sd)) (fun es n h => ddo_succ h) rfl fun s6 S6 => nameX_L S6.fr (by rfl) ?_)))))))
  refine dItem S6 esd csd (intKind_is ..) (by rw [valueAt_map, if_pos hak]) fun s7 S7 => wpAny_items_nil ?_
  refine dList S7 H'.hand eS cS l1 fun l ol vl s8 hl0 S8 hlo hlen hvl => ?_
  refine wpAny_UnaryOp (cInt S8 fun _ s9 S9 => negI S9 fun _ s10 S10 => lastKey S10 hlo hlen hvl hne (D.len5 a) fun tl => ?_)
  refine stL (S10.drop hl0) fun s11 S11 => ?_
  clear S5 S6 S7 S8 S9 S10
  rw [← getLast!_eq hne] at S11
  refine ks_wpAt_execs_cons (ks_wpAt_If (_root_.PySem.wpAt_of_wpAny (wpAny_isTrue_Compare1 (nameX_L S11.fr (by rfl) (wpAny_Constant_none (isNot_none (wpAny_truthy_bool ?_)))) (by rfl))))
  rw [if_pos (by rfl)]
  refine ks_wpAt_execs_cons (ks_wpAt_If (_root_.PySem.wpAt_of_wpAny (wpAny_isTrue_Compare1 (nameX_L S11.fr (by rfl) (nameX_L S11.fr (by rfl) (dNotIn S11 eS cS (intKind_is ..) fun s12 S12 => wpAny_truthy_bool ?_))) (by rfl))))
  rw [valueAt_map, if_pos hc, if_neg (by simp)]
  refine _root_.PySem.wpAt_of_wpAny (wpAny_execs_nil ?_)
  refine ks_wpAt_execs_cons (ks_wpAt_If (_root_.PySem.wpAt_of_wpAny (wpAny_isTrue_Compare1 (nameX_L S12.fr (by rfl) (wpAny_Constant_none (isNot_none (wpAny_truthy_bool ?_)))) (by rfl))))
  rw [if_neg (by simp)]
  refine _root_.PySem.wpAt_of_wpAny (wpAny_execs_nil ?_)
  refine ks_wpAt_execs_cons (_root_.PySem.wpAt_of_wpAny (wpAny_Assign_Name (Subscript_ (Subscript_ (nameX_L S12.fr (by rfl) (nameX_L S12.fr (by rfl) (succsItem S12 D hc fun s13 S13 => cStr S13 fun _ s14 S14 => readCcw S14 D hc fun tr s15 S15 => ?_)))))))
  refine stL S15 fun s16 S16 => ?_
  clear S11 S12 S13 S14 S15
  refine ks_wpAt_execs_cons (super_call FS FC H' S16 D FS.edge ho (by rfl) (by rfl) hcode hvs hfile (by rfl) fun s17 μ17 S17 => ?_)
  refine wpAny_items_cons (nameX_L S17.fr (by rfl) (wpAny_items_cons (nameX_L S17.fr (by rfl) (wpAny_items_nil ?_))))
  refine kwAll_cons (nameX_L S17.fr (by rfl) (kwAll_cons (nameX_L S17.fr (by rfl) (kwAll_nil ⟨_, S17, fun S18 => ?_⟩))))
  refine edge_spec1 FE FC H' S18 D W ha5 hb5 hnew (by show A.depth + 1 + 1 < _; omega) fun s19 μ19 ad19 S19 D19 T19 => ?_
  clear S16 S17 S18
  have eSa : ad19 (.S a) = ad (.S a) := (T19.ks a hak).2
  have ho19 : (G.addEdge a b c (G.ccw a c)).ord a = G.ord a ++ [b] := by simp [PE.addEdge, PE.edge]
  have hak19 := (T19.ks a hak).1
  have eP : G.halfCw a b c = if c = (G.ord a).getLast! then ((G.addEdge a b c (G.ccw a c)).setCw a (G.ccw a c) b).setCcw a c b else (((G.addEdge a b c (G.ccw a c)).setCw a (G.ccw a c) b).setCcw a c b).mv a (G.ord a).getLast! := rfl
  rw [eP] at post
  clear eP
  generalize G.addEdge a b c (G.ccw a c) = G19 at *
  have hcc' : G.ccw a c ∈ G19.ord a := by rw [ho19]; exact List.mem_append_left _ hcc
  have hc' : c ∈ G19.ord a := by rw [ho19]; exact List.mem_append_left _ hc
  refine ks_wpAt_execs_cons (_root_.PySem.wpAt_of_wpAny (wpAny_Assign_Subscript (nameX_L S19.fr (by rfl) (Subscript_ (nameX_L S19.fr (by rfl) (nameX_L S19.fr (by rfl) ?_)))) (by rfl)))
  rw [← eSa]
  refine succsItem S19 D19 hcc' fun s20 S20 => cStr S20 fun _ s21 S21 => setCwR S21 D19 hcc' fun s22 o22 S22 D22 => ?_
  have T22 := Step.upd (o' := o22) (G' := G19.setCw a (G.ccw a c) b) T19 (.D a (G.ccw a c)) hcc' (fun q l => by cases q <;> exact l)
  refine ks_wpAt_execs_cons (_root_.PySem.wpAt_of_wpAny (wpAny_Assign_Subscript (nameX_L S22.fr (by rfl) (Subscript_ (nameX_L S22.fr (by rfl) (nameX_L S22.fr (by rfl) ?_)))) (by rfl)))
  rw [← eSa]
  have hc22 : c ∈ (G19.setCw a (G.ccw a c) b).ord a := hc'
  refine succsItem S22 D22 hc22 fun s23 S23 => cStr S23 fun _ s24 S24 => setCcwR S24 D22 hc22 fun s25 o25 S25 D25 => ?_
  have T25 := Step.upd (o' := o25) (G' := (G19.setCw a (G.ccw a c) b).setCcw a c b) T22 (.D a c) hc22 (fun q l => by cases q <;> exact l)
  clear S19 S20 S21 S22 S23 S24
  refine ks_wpAt_execs_cons (_root_.PySem.wpAt_of_wpAny (wpAny_Assign_Name (wpAny_Compare1 (nameX_L S25.fr (by rfl) (nameX_L S25.fr (by rfl) (ne_int ?_))))))
  refine stL S25 fun s26 S26 => _root_.PySem.wpAt_of_wpAny (wpAny_execs_nil ?_)
  clear S25
  have hl26 : (G.ord a).getLast! ∈ ((G19.setCw a (G.ccw a c) b).setCcw a c b).ord a := by
    show _ ∈ G19.ord a
    rw [ho19, getLast!_eq hne]
    exact List.mem_append_left _ (List.getLast_mem hne)
  have hak26 : a ∈ ((G19.setCw a (G.ccw a c) b).setCcw a c b).ks := hak19
  generalize (G19.setCw a (G.ccw a c) b).setCcw a c b = G26 at *
  generalize (G.ord a).getLast! = lm at *
  clear T22 D22 D19 T19
  refine ks_wpAt_execs_cons (ks_wpAt_If (_root_.PySem.wpAt_of_wpAny (wpAny_isTrue_value (nameX_L S26.fr (by rfl) (wpAny_truthy_bool ?_)))))
  by_cases hcl : c = lm
  · rw [if_neg (by simp [hcl])]
    rw [if_pos hcl] at post
    exact _root_.PySem.wpAt_of_wpAny (wpAny_execs_nil (_root_.PySem.wpAt_of_wpAny (wpAny_execs_nil (_root_.PySem.wpAt_of_wpAny (wpAny_execs_nil (Back.intro S26 fun k => post _ _ _ k D25 T25))))))
  rw [if_pos (by simp [hcl])]
  rw [if_neg hcl] at post
  refine ks_wpAt_execs_cons (_root_.PySem.wpAt_of_wpAny (wpAny_Assign_Subscript (MethodCall_ (nameX_L S26.fr (by rfl) ?_)) (by rfl)))
  rw [← eSa]
  obtain ⟨oS2, eS2, cS2⟩ := D25.at_ (.S a) hak26
  refine dPopM S26 eS2 cS2 (cwB (wpAny_items_cons (nameX_L S26.fr (by rfl) (wpAny_items_nil ?_))))
  refine popR S26 D25 hl26 fun s27 o27 S27 D27 => nameX_L S27.fr (by rfl) (nameX_L S27.fr (by rfl) ?_)
  rw [← eSa]
  have T27 := Step.upd (o' := o27) (G' := G26.pop a lm) T25 (.S a) hak26 pop_live
  obtain ⟨od, ed, cd⟩ := D25.at_ (.D a lm) hl26
  have nS : ad19 (.D a lm) ≠ ad19 (.S a) := fun q => by have := D25.inj (.D a lm) (.S a) hl26 hak26 q; cases this
  have gone := pop_gone D25 hl26
  have nin : lm ∉ (G26.pop a lm).ord a := fun l => by
    have l : lm ∈ set1 G26.ord a ((G26.ord a).filter fun z => decide (z ≠ lm)) a := l
    rw [set1_self] at l
    exact of_decide_eq_true (List.mem_filter.mp l).2 rfl
  refine putR S27 D27 hak26 nin (D25.ok.ord _ _ hl26) gone ((put_ne nS).trans ed) cd fun s28 o28 S28 D28 => ?_
  have T28 := Step.place (o' := o28) (G' := G26.mv a lm) T27 (.S a) (.D a lm) hak26 (by intro q; cases q) (a := ad19 (.D a lm)) (T25.grow _ ⟨.D a lm, hl26, rfl⟩).symm (liveE_)
  exact _root_.PySem.wpAt_of_wpAny (wpAny_execs_nil (_root_.PySem.wpAt_of_wpAny (wpAny_execs_nil (_root_.PySem.wpAt_of_wpAny (wpAny_execs_nil (Back.intro S28 fun k => post _ _ _ k D28 T28))))))

theorem half_ccw {a b c : Int} {ta tb tc : Tok} (FE : FEdge K) (FC : FCls K) (FS : FSup K) (FH : FHalf K) (H : Here K p loose mean mg mb A env h₀ L) (S : At s0 h₀ L s m μ) (D : Dr w μ ad G) (W : G.Same)
    (ha5 : 0 ≤ a ∧ a < 5) (hb5 : 0 ≤ b ∧ b < 5) (hnew : b ∉ G.ord a) (hc : c ∈ G.ord a) (hcc : G.cw a c ∈ G.ord a) (hroom : A.depth + 2 < recursionLimit)
    (post : ∀ s' μ' ad', At s0 h₀ L s' m μ' → Dr w μ' ad' (G.halfCcw a b c) → Step μ ad G μ' ad' (G.halfCcw a b c) → R (.ok (.ret .none)) s') :
    codeAny (model P0 w) A (.call (.ref 825) ⟨[.ref (ad .x), .int a ta, .int b tb], [("ccw", .int c tc)]⟩) R s := by
  obtain ⟨oc, od, doc, pm, an, cda, ct, osl, ccl, cdd, vs, ccs, file, tf, ho, hcd, hcode, hvs, hfile, hb⟩ := FH.half
  refine call_sup (binds := halfBinds (.ref (ad .x)) (.int a ta) (.int b tb) .none (.int c tc)) H S ho hcd (by omega) (kp_binds (H.X.keeps S.fr.keep) fun Sg => (hb Sg _ _ _ .none (.int c tc)).2.1) (locs (by with_unfolding_all rfl)) (fun g L' s₁ H' S1 _ => ?_) (by decide)
  have hak : a ∈ G.ks := D.ksOf hc
  have hne : G.ord a ≠ [] := List.ne_nil_of_mem hc
  refine ks_wpAt_execs_cons (_root_.PySem.wpAt_of_wpAny (wpAny_Assign_Name (MethodCall_ (attrX S1 H' FC D (by rfl) FC.succ (v := .ref (ad .sd)) (fun es n h => ddo_succ h) rfl fun s2 S2 => ?_))))
  obtain ⟨osd, esd, csd⟩ := D.at_ .sd trivial
  refine dGetM S2 esd csd (cwB (wpAny_items_cons (nameX_L S2.fr (by rfl) (wpAny_items_nil ?_))))
  refine dGet1 S2 esd csd (intKind_is ..) fun s3 S3 => ?_
  rw [valueAt_map, if_pos hak]
  refine stL S3 fun s4 S4 => ?_
  clear S1 S2 S3
  refine ks_wpAt_execs_cons (ks_wpAt_If (_root_.PySem.wpAt_of_wpAny (wpAny_isTrue_value (nameX_L S4.fr (by rfl) ?_))))
  obtain ⟨oS, eS, cS⟩ := D.at_ (.S a) hak
  have l1 : ((G.ord a).map fun k => (k, Value.ref (ad (.D a k)))).length ≤ sizeLine := le_line (by have := D.len5 a; simp; omega)
  refine dTruth S4 eS cS l1 fun s5 S5 => ?_
  rw [if_pos (by simp [hne])]
  clear S4
  refine ks_wpAt_execs_cons (_root_.PySem.wpAt_of_wpAny (wpAny_Assign_Name (Subscript_ (callT "list" S5 H' FH.list (by decide +kernel) (by decide) (wpAny_items_cons (Subscript_ (attrX S5 H' FC D (by rfl) FC.succ (v := .ref (ad .sd)) (fun es n h => ddo_succ h) rfl fun s6 S6 => nameX_L S6.fr (by rfl) ?_)))))))
  refine dItem S6 esd csd (intKind_is ..) (by rw [valueAt_map, if_pos hak]) fun s7 S7 => wpAny_items_nil ?_
  refine dList S7 H'.hand eS cS l1 fun l ol vl s8 hl0 S8 hlo hlen hvl => ?_
  refine wpAny_UnaryOp (cInt S8 fun _ s9 S9 => negI S9 fun _ s10 S10 => lastKey S10 hlo hlen hvl hne (D.len5 a) fun tl => ?_)
  refine stL (S10.drop hl0) fun s11 S11 => ?_
  clear S5 S6 S7 S8 S9 S10
  rw [← getLast!_eq hne] at S11
  refine ks_wpAt_execs_cons (ks_wpAt_If (_root_.PySem.wpAt_of_wpAny (wpAny_isTrue_Compare1 (nameX_L S11.fr (by rfl) (wpAny_Constant_none (isNot_none (wpAny_truthy_bool ?_)))) (by rfl))))
  rw [if_neg (by simp)]
  refine ks_wpAt_execs_cons (ks_wpAt_If (_root_.PySem.wpAt_of_wpAny (wpAny_isTrue_Compare1 (nameX_L S11.fr (by rfl) (wpAny_Constant_none (isNot_none (wpAny_truthy_bool ?_)))) (by rfl))))
  rw [if_pos (by rfl)]
  refine ks_wpAt_execs_cons (ks_wpAt_If (_root_.PySem.wpAt_of_wpAny (wpAny_isTrue_Compare1 (nameX_L S11.fr (by rfl) (nameX_L S11.fr (by rfl) (dNotIn S11 eS cS (intKind_is ..) fun s12 S12 => wpAny_truthy_bool ?_))) (by rfl))))
  rw [valueAt_map, if_pos hc, if_neg (by simp)]
  refine _root_.PySem.wpAt_of_wpAny (wpAny_execs_nil ?_)
  refine ks_wpAt_execs_cons (_root_.PySem.wpAt_of_wpAny (wpAny_Assign_Name (Subscript_ (Subscript_ (nameX_L S12.fr (by rfl) (nameX_L S12.fr (by rfl) (succsItem S12 D hc fun s13 S13 => cStr S13 fun _ s14 S14 => readCw S14 D hc fun tr s15 S15 => ?_)))))))
  refine stL S15 fun s16 S16 => ?_
  clear S11 S12 S13 S14 S15
  refine ks_wpAt_execs_cons (super_call FS FC H' S16 D FS.edge ho (by rfl) (by rfl) hcode hvs hfile (by rfl) fun s17 μ17 S17 => ?_)
  refine wpAny_items_cons (nameX_L S17.fr (by rfl) (wpAny_items_cons (nameX_L S17.fr (by rfl) (wpAny_items_nil ?_))))
  refine kwAll_cons (nameX_L S17.fr (by rfl) (kwAll_cons (nameX_L S17.fr (by rfl) (kwAll_nil ⟨_, S17, fun S18 => ?_⟩))))
  refine edge_spec1 FE FC H' S18 D W ha5 hb5 hnew (by show A.depth + 1 + 1 < _; omega) fun s19 μ19 ad19 S19 D19 T19 => ?_
  clear S16 S17 S18
  have eSa : ad19 (.S a) = ad (.S a) := (T19.ks a hak).2
  have ho19 : (G.addEdge a b (G.cw a c) c).ord a = G.ord a ++ [b] := by simp [PE.addEdge, PE.edge]
  have hak19 := (T19.ks a hak).1
  have eP : G.halfCcw a b c = (((G.addEdge a b (G.cw a c) c).setCcw a (G.cw a c) b).setCw a c b).mv a (G.ord a).getLast! := rfl
  rw [eP] at post
  clear eP
  generalize G.addEdge a b (G.cw a c) c = G19 at *
  have hcc' : G.cw a c ∈ G19.ord a := by rw [ho19]; exact List.mem_append_left _ hcc
  have hc' : c ∈ G19.ord a := by rw [ho19]; exact List.mem_append_left _ hc
  refine ks_wpAt_execs_cons (_root_.PySem.wpAt_of_wpAny (wpAny_Assign_Subscript (nameX_L S19.fr (by rfl) (Subscript_ (nameX_L S19.fr (by rfl) (nameX_L S19.fr (by rfl) ?_)))) (by rfl)))
  rw [← eSa]
  refine succsItem S19 D19 hcc' fun s20 S20 => cStr S20 fun _ s21 S21 => setCcwR S21 D19 hcc' fun s22 o22 S22 D22 => ?_
  have T22 := Step.upd (o' := o22) (G' := G19.setCcw a (G.cw a c) b) T19 (.D a (G.cw a c)) hcc' (fun q l => by cases q <;> exact l)
  refine ks_wpAt_execs_cons (_root_.PySem.wpAt_of_wpAny (wpAny_Assign_Subscript (nameX_L S22.fr (by rfl) (Subscript_ (nameX_L S22.fr (by rfl) (nameX_L S22.fr (by rfl) ?_)))) (by rfl)))
  rw [← eSa]
  have hc22 : c ∈ (G19.setCcw a (G.cw a c) b).ord a := hc'
  refine succsItem S22 D22 hc22 fun s23 S23 => cStr S23 fun _ s24 S24 => setCwR S24 D22 hc22 fun s25 o25 S25 D25 => ?_
  have T25 := Step.upd (o' := o25) (G' := (G19.setCcw a (G.cw a c) b).setCw a c b) T22 (.D a c) hc22 (fun q l => by cases q <;> exact l)
  clear S19 S20 S21 S22 S23 S24
  refine ks_wpAt_execs_cons (_root_.PySem.wpAt_of_wpAny (wpAny_Assign_Name (wpAny_Constant_bool ?_)))
  refine stL S25 fun s26 S26 => _root_.PySem.wpAt_of_wpAny (wpAny_execs_nil (_root_.PySem.wpAt_of_wpAny (wpAny_execs_nil ?_)))
  clear S25
  have hl26 : (G.ord a).getLast! ∈ ((G19.setCcw a (G.cw a c) b).setCw a c b).ord a := by
    show _ ∈ G19.ord a
    rw [ho19, getLast!_eq hne]
    exact List.mem_append_left _ (List.getLast_mem hne)
  have hak26 : a ∈ ((G19.setCcw a (G.cw a c) b).setCw a c b).ks := hak19
  generalize (G19.setCcw a (G.cw a c) b).setCw a c b = G26 at *
  generalize (G.ord a).getLast! = lm at *
  clear T22 D22 D19 T19
  refine ks_wpAt_execs_cons (ks_wpAt_If (_root_.PySem.wpAt_of_wpAny (wpAny_isTrue_value (nameX_L S26.fr (by rfl) (wpAny_truthy_bool ?_)))))
  rw [if_pos rfl]
  refine ks_wpAt_execs_cons (_root_.PySem.wpAt_of_wpAny (wpAny_Assign_Subscript (MethodCall_ (nameX_L S26.fr (by rfl) ?_)) (by rfl)))
  rw [← eSa]
  obtain ⟨oS2, eS2, cS2⟩ := D25.at_ (.S a) hak26
  refine dPopM S26 eS2 cS2 (cwB (wpAny_items_cons (nameX_L S26.fr (by rfl) (wpAny_items_nil ?_))))
  refine popR S26 D25 hl26 fun s27 o27 S27 D27 => nameX_L S27.fr (by rfl) (nameX_L S27.fr (by rfl) ?_)
  rw [← eSa]
  have T27 := Step.upd (o' := o27) (G' := G26.pop a lm) T25 (.S a) hak26 pop_live
  obtain ⟨od, ed, cd⟩ := D25.at_ (.D a lm) hl26
  have nS : ad19 (.D a lm) ≠ ad19 (.S a) := fun q => by have := D25.inj (.D a lm) (.S a) hl26 hak26 q; cases this
  have gone := pop_gone D25 hl26
  have nin : lm ∉ (G26.pop a lm).ord a := fun l => by
    have l : lm ∈ set1 G26.ord a ((G26.ord a).filter fun z => decide (z ≠ lm)) a := l
    rw [set1_self] at l
    exact of_decide_eq_true (List.mem_filter.mp l).2 rfl
  refine putR S27 D27 hak26 nin (D25.ok.ord _ _ hl26) gone ((put_ne nS).trans ed) cd fun s28 o28 S28 D28 => ?_
  have T28 := Step.place (o' := o28) (G' := G26.mv a lm) T27 (.S a) (.D a lm) hak26 (by intro q; cases q) (a := ad19 (.D a lm)) (T25.grow _ ⟨.D a lm, hl26, rfl⟩).symm (liveE_)
  exact _root_.PySem.wpAt_of_wpAny (wpAny_execs_nil (_root_.PySem.wpAt_of_wpAny (wpAny_execs_nil (_root_.PySem.wpAt_of_wpAny (wpAny_execs_nil (Back.intro S28 fun k => post _ _ _ k D28 T28))))))
end
end Mine
end
section -- HalfF
open PySem PySem.W PySem.Calls PyProof.Rows PyProof.V
set_option maxRecDepth 100000
set_option linter.unusedVariables false
namespace Mine
section
variable {w : World} {K : Frag} {p : Program} {loose : List Str} {mean : ExcName → Option Value} {mg mb : Str → Option Value}
variable {A A' : Around} {env env' : Env} {h₀ : Heap} {L : Addr} {m : Str → Option Value} {μ : Mu} {s0 : Anc} {s : Shared} {E : Value → Shared → Prop} {ad : Adr} {G : PE} {R : Result → Shared → Prop}

theorem getSuccs {u : Int} {t : Tok} {Q : Value → Shared → Prop} (S : At s0 h₀ L s m μ) (D : Dr w μ ad G) (h : ∀ s', At s0 h₀ L s' m μ → Q (if u ∈ G.ks then .ref (ad (.S u)) else .none) s') :
    wpAny (model P0 w) A (call (.builtin "dict.get") [.ref (ad .sd), .int u t]) Q E s := by
  obtain ⟨osd, esd, csd⟩ := D.at_ .sd trivial
  refine dGet1 S esd csd (intKind_is ..) fun s3 S3 => ?_
  rw [valueAt_map]
  have := h s3 S3
  split <;> simpa [*] using this
theorem truthSuccs {u : Int} {Q : Bool → Shared → Prop} (S : At s0 h₀ L s m μ) (D : Dr w μ ad G) (h : ∀ s', At s0 h₀ L s' m μ → Q (decide (G.ord u ≠ [])) s') :
    wpAny (model P0 w) A (truthy (if u ∈ G.ks then .ref (ad (.S u)) else .none)) Q E s := by
  by_cases hu : u ∈ G.ks
  · rw [if_pos hu]
    obtain ⟨oS, eS, cS⟩ := D.at_ (.S u) hu
    refine dTruth S eS cS (le_line (by have := D.len5 u; simp; omega)) fun s5 S5 => ?_
    have : (!((G.ord u).map fun k => (k, Value.ref (ad (.D u k)))).isEmpty) = decide (G.ord u ≠ []) := by cases G.ord u <;> simp
    rw [this]; exact h s5 S5
  · rw [if_neg hu]
    have e : G.ord u = [] := D.ok.out u hu
    have := h s S
    rw [e] at this
    exact fun _ _ _ => this

def PE.halfFirst (G : PE) (a b : Int) : PE := G.addEdge a b b b

theorem half_first {a b : Int} {ta tb : Tok} {kw : List (Str × Value)} (hkw : kw = [] ∨ kw = [(("cw" : Str), Value.none)]) (FE : FEdge K) (FC : FCls K) (FS : FSup K) (FH : FHalf K) (H : Here K p loose mean mg mb A env h₀ L) (S : At s0 h₀ L s m μ) (D : Dr w μ ad G) (W : G.Same)
    (ha5 : 0 ≤ a ∧ a < 5) (hb5 : 0 ≤ b ∧ b < 5) (hemp : G.ord a = []) (hroom : A.depth + 2 < recursionLimit)
    (post : ∀ s' μ' ad', At s0 h₀ L s' m μ' → Dr w μ' ad' (G.halfFirst a b) → Step μ ad G μ' ad' (G.halfFirst a b) → R (.ok (.ret .none)) s') :
    codeAny (model P0 w) A (.call (.ref 825) ⟨[.ref (ad .x), .int a ta, .int b tb], kw⟩) R s := by
  obtain ⟨oc, od, doc, pm, an, cda, ct, osl, ccl, cdd, vs, ccs, file, tf, ho, hcd, hcode, hvs, hfile, hb⟩ := FH.half
  refine call_sup (binds := halfBinds (.ref (ad .x)) (.int a ta) (.int b tb) .none .none) H S ho hcd (by omega) (kp_binds (H.X.keeps S.fr.keep) fun Sg => by
    rcases hkw with rfl | rfl
    · exact (hb Sg _ _ _ .none .none).2.2.2
    · exact (hb Sg _ _ _ .none .none).1) (locs (by with_unfolding_all rfl)) (fun g L' s₁ H' S1 _ => ?_) (by decide)
  refine ks_wpAt_execs_cons (_root_.PySem.wpAt_of_wpAny (wpAny_Assign_Name (MethodCall_ (attrX S1 H' FC D (by rfl) FC.succ (v := .ref (ad .sd)) (fun es n h => ddo_succ h) rfl fun s2 S2 => ?_))))
  obtain ⟨osd, esd, csd⟩ := D.at_ .sd trivial
  refine dGetM S2 esd csd (cwB (wpAny_items_cons (nameX_L S2.fr (by rfl) (wpAny_items_nil (getSuccs S2 D fun s3 S3 => stL S3 fun s4 S4 => ?_)))))
  clear S1 S2 S3
  refine ks_wpAt_execs_cons (ks_wpAt_If (_root_.PySem.wpAt_of_wpAny (wpAny_isTrue_value (nameX_L S4.fr (by rfl) (truthSuccs S4 D fun s5 S5 => ?_)))))
  rw [if_neg (by simp [hemp])]
  refine ks_wpAt_execs_cons (ks_wpAt_If (_root_.PySem.wpAt_of_wpAny (wpAny_isTrue_BoolOp (wpAny_allTrue_Or_cons (wpAny_isTrue_Compare1 (nameX_L S5.fr (by rfl) (wpAny_Constant_none (isNot_none (wpAny_truthy_bool ?_)))) (by rfl))))))
  rw [if_neg (by simp)]
  refine wpAny_allTrue_Or_cons (wpAny_isTrue_Compare1 (nameX_L S5.fr (by rfl) (wpAny_Constant_none (isNot_none (wpAny_truthy_bool ?_)))) (by rfl))
  rw [if_neg (by simp)]
  refine wpAny_allTrue_Or_nil ?_
  rw [if_neg (by simp)]
  refine _root_.PySem.wpAt_of_wpAny (wpAny_execs_nil ?_)
  refine ks_wpAt_execs_cons (super_call FS FC H' S5 D FS.edge ho (by rfl) (by rfl) hcode hvs hfile (by rfl) fun s17 μ17 S17 => ?_)
  refine wpAny_items_cons (nameX_L S17.fr (by rfl) (wpAny_items_cons (nameX_L S17.fr (by rfl) (wpAny_items_nil ?_))))
  refine kwAll_cons (nameX_L S17.fr (by rfl) (kwAll_cons (nameX_L S17.fr (by rfl) (kwAll_nil ⟨_, S17, fun S18 => ?_⟩))))
  refine edge_spec2 FE FC H' S18 D W ha5 hb5 (by rw [hemp]; exact List.not_mem_nil) (by show A.depth + 1 + 1 < _; omega) fun s19 μ19 ad19 S19 D19 T19 => ?_
  exact _root_.PySem.wpAt_of_wpAny (wpAny_execs_nil (_root_.PySem.wpAt_of_wpAny (wpAny_execs_nil (Back.intro S19 fun k => post _ _ _ k D19 T19))))
end
end Mine
end
section -- Exc
open PySem PySem.W PySem.Calls PyProof.Rows PyProof.V PySem.Spec
set_option maxRecDepth 100000
set_option linter.unusedVariables false
namespace Mine

structure FExc (K : Frag) : Prop where
  name : nsIn K mainGlobals "NetworkXError" = some (some (.ref 200))
  exc : excIn K 200 [.type "Exception", .type "BaseException", .type "object"] "Exception.__new__" = true
  kts : ktsIn K 200 "BaseException" = true

def Fly (base : Heap) (outer : List Env) (env : Env) (h₀ : Heap) (L : Addr) (m : Str → Option Value) (μ : Mu) (s0 : Anc) (s' : Shared) (e : Addr) : Prop :=
  ∃ g t vs n, Fr h₀ L g m ∧ RaisedS base g (env :: outer) e (.ref 200) t vs (lst μ n) s'.heap ∧ g.UpToSlots s'.heap ∧ (∀ a o, μ a = some o → a < n) ∧ Keep s0 s'

section
variable {w : World} {K : Frag} {p : Program} {loose : List Str} {mean : ExcName → Option Value} {mg mb : Str → Option Value}
variable {A A' A₀ : Around} {env env' : Env} {base h₀ : Heap} {outer : List Env} {L : Addr} {m : Str → Option Value} {μ : Mu} {s0 : Anc} {s : Shared} {E : Value → Shared → Prop}
  {R : Result → Shared → Prop} {name qual : Str} {params : Arguments} {body : List Stmt} {scope : Scope} {dV kV doc pm cdv ct oc : Value} {an od : Option Addr} {osl : Array (Option Value)} {f : Addr} {args : Args} {binds : List (Str × Value)} {cl : List (Str × Addr)}

theorem Sit.news' {h : Heap} {n : Nat} (S : Sit h₀ L h m μ) : News h₀ L h (lst μ n) := fun p hp => S.led _ _ (mem_lst.mp hp).2

theorem raiseX {np cpos pos : Pos} {y : Str} {kk : Nat} {cp : Pos} {cn : Str} {cs : Scope} {a : Addr} {ccd : Value} {Q : Flow → Shared → Prop} (FR : FExc K) (S : At s0 h₀ L s m μ) (H : Here K p loose mean mg mb A' env' h₀ L) (hh : A.handled = none)
    (h : ∀ s1 s2 e vs, At s0 h₀ L s1 m μ → Heap.MadeExcOf s1.heap s2.heap e (.ref 200) vs → Keep s0 s2 → E (.ref e) s2)
    (hk : cs.kind = .function := by rfl) (hx : (envX cn cs L a ccd cl).kindOf "NetworkXError" = some .globalImplicit := by rfl)
    (he : starEach [.Constant (.str y) kk cp] (envX cn cs L a ccd cl) = (false, eval (.Constant (.str y) kk cp) (envX cn cs L a ccd cl)) :: starEach [] (envX cn cs L a ccd cl) := by rfl) :
    wpAny (model P0 w) A (exec (.Raise (some (.Call (.Name "NetworkXError" np) [.Constant (.str y) kk cp] [] cpos)) none pos) (envX cn cs L a ccd cl)) Q E s := by
  have O := own_of_in H.X (topRead_of H.T) FR.name FR.exc
  obtain ⟨tl, N, nm, q, bs, hdct, sn, sub, ab, col, dd, k0, k1, k2, k3, k5, mN, hC, hN, hni, T⟩ := O.obj
  have FB := PySem.F.excBase_Exception
  refine wpAny_Raise_call_subT (C := 200) (nm := nm) (q := q) (N := N) (bs := bs) (bm := tl) (hdct := hdct) (sn := sn) (sub := sub) (ab := ab) (col := col) (dd := dd) (k0 := k0) (k1 := k1) (k2 := k2) (k3 := k3) (k5 := k5)
    FB (mN := mN) (T.hasType FB.hasBase) hh (by rw [he]; rfl) hni (nameX_K S.fr H.X (topRead_of H.T) FR.name ⟨rfl, ?_⟩ hk hx)
  rw [he]
  refine Calls.evalArgs_plain (wpAny_items_cons (cStr S fun t s' S' => wpAny_items_nil ?_))
  exact ⟨rfl, le_line (show 1 ≤ 100 by decide), S'.fr.keep _ _ hC, hN.keeps S'.fr.keep, T.keeps S'.fr.keep, fun h' e hm => h _ _ _ _ S' hm S'.kp⟩

theorem leaveRaise {g : Heap} {L' e : Addr} {m' : Str → Option Value} {s1 s2 : Shared} {vs : List Value} {Q : Unit → Shared → Prop} {M : Model} (B : Below A base outer g) (S : At s0 g L' s1 m' μ) (hx : Heap.MadeExcOf s1.heap s2.heap e (.ref 200) vs) (kp : Keep s0 s2) (hf : env'.frame = some L') (hk : env'.scope.kind = .function)
    (hQ : ∀ h' t n, RaisedS base g outer e (.ref 200) t vs (lst μ n) h' → g.UpToSlots h' → (∀ a o, μ a = some o → a < n) → Q () { s2 with heap := h' }) :
    wpAny M (A.deeper env') (leaving env' (.ref e)) Q E s2 := by
  have F := S.fr
  have N := S.sit.news
  have K' := pushX B F hf hk
  have hin : ∀ en ∈ (env' :: outer), ∀ b, en.frame = some b → b ∈ (env' :: outer).filterMap (·.frame) := fun en he b hb => List.mem_filterMap.mpr ⟨en, he, hb⟩
  have mem' : ∀ b, b ∈ (env' :: outer).filterMap (·.frame) → b = L' ∨ b ∈ outer.filterMap (·.frame) := fun b hm => by
    obtain ⟨en, he, hf'⟩ := List.mem_filterMap.mp hm
    rcases List.mem_cons.mp he with rfl | he
    · exact .inl (Option.some.inj (hf'.symm.trans hf))
    · exact .inr (List.mem_filterMap.mpr ⟨en, he, hf'⟩)
  have st : base.StaysIn (hideAll s1.heap ((env' :: outer).filterMap (·.frame))) := fun b o q => hideAll_get _ (K'.stays b o q) fun hm => by
    rw [(K'.frames.mem hm).1] at q; cases q
  have sg : ∀ b o, g.get? b = some o → b ∉ outer.filterMap (·.frame) → (hideAll s1.heap ((env' :: outer).filterMap (·.frame))).get? b = some o := fun b o q nm => hideAll_get _ (F.keep b o q) fun hm => by
    rcases mem' b hm with z | z
    · rw [z, kts_self F] at q; cases q
    · exact nm z
  have hl : ∀ q ∈ lst μ s1.heap.objs.size, (hideAll s1.heap ((env' :: outer).filterMap (·.frame))).get? q.1 = some q.2 ∧ g.get? q.1 = none ∧ base.get? q.1 = none := fun q hq => by
    refine ⟨hideAll_get _ (N q hq).1 fun hm => ?_, (N q hq).2.2, fresh_of_stays B.stays (N q hq).2.2⟩
    rcases mem' _ hm with z | z
    · exact (N q hq).2.1 z
    · obtain ⟨o, ho, _⟩ := (B.frames.mem z).2
      rw [(N q hq).2.2] at ho; cases ho
  refine wpAny_leaves_madeW K'.stack hf (fun b o q => of_hideAll _ q) (funFrames_hide K'.frames hin) hx fun h' t x1 x2 x3 x4 => ?_
  exact hQ h' t _ ⟨⟨_, st, sg, hl, x1, x3⟩, x2⟩ (((Heap.UpToSlots.of_keeps F.keep).trans (Heap.UpToSlots.of_keeps hx.keeps)).trans x4) fun a o e => S.sit.lt e

theorem leaveOn {g : Heap} {L' e a : Addr} {m' : Str → Option Value} {s2 : Shared} {cn : Str} {cs : Scope} {ccd : Value} {M : Model} (B : Below A base (env :: outer) g) (FG : Fr h₀ L g m) (F : Fly base (env :: outer) (envOf cn cs L' a ccd) g L' m' μ s0 s2 e)
    (hE : ∀ e s', Fly base outer env h₀ L m μ s0 s' e → R (.error (.ref e)) s') :
    wpAny M (A.deeper (envOf cn cs L' a ccd)) (leaving (envOf cn cs L' a ccd) (.ref e)) (fun _ s'' => R (.error (.ref e)) s'') E s2 := by
  obtain ⟨g₂, t, vs, n, F2, Rz, U, hn, kp⟩ := F
  exact leave_onS B F2 Rz U fun h' R1 _ U1 => hE e _ ⟨g, t, vs, n, FG, R1, U1, hn, kp⟩

theorem call_defE (H : Here K p loose mean mg mb A env h₀ L) (B : Below A₀ base outer h₀) (hA : A.frames = some (env :: outer)) (S : At s0 h₀ L s m μ)
    (ho : K.lookup f = some ⟨oc, od, .func (fnX name qual params body scope cl dV kV doc pm an cdv ct), osl⟩) (hcd : codeIn K cdv qual = true) (hroom : A.depth < recursionLimit)
    (hbind : BindsTo s (fnX name qual params body scope cl dV kV doc pm an cdv ct) args binds) (hloc : ∀ y ∈ binds, scope.names.lookup y.1 = some .local)
    (h : ∀ g L' s₁, Here K p loose mean mg mb (A.deeper (envX qual scope L' f cdv cl)) (envX qual scope L' f cdv cl) g L' → At s0 g L' s₁ (fun y => binds.reverse.lookup y) μ → Fr h₀ L g m → Below A base (env :: outer) g →
      wpAny (model P0 w) (A.deeper (envX qual scope L' f cdv cl)) (execs body (envX qual scope L' f cdv cl))
        (fun fl s' => Back s0 h₀ L m g L' R (match fl with | .ret v => v | _ => .none) s')
        (fun e s' => wpAny (model P0 w) (A.deeper (envX qual scope L' f cdv cl)) (leaving (envX qual scope L' f cdv cl) e) (fun _ s'' => R (.error e) s'') (fun e' s'' => R (.error e') s'') s')
        s₁)
    (hcell : ∀ x ∈ scope.names, x.2 ≠ .cell) (hco : scope.isCoroutine = false := by rfl) (hgen : scope.isGenerator = false := by rfl) (hk : scope.kind = .function := by rfl) :
    codeAny (model P0 w) A (.call (.ref f) args) R s := by
  have X := H.X.keeps S.fr.keep
  refine callX_plain B S.fr S.sit.news H.T.nolimit hA H.frame H.kind (X _ _ ho) rfl (codeRec_of X hcd) hroom hbind hloc (fun g L' h₁ FG F' N' B' st l => ?_) hcell hco hgen hk
  have hX := H.X.keeps st
  refine wpAny_mono (h g L' _ ⟨hX, H.T.keeps st, ⟨_, _, _, B', Around.frames_deeper hA⟩, rfl, hk, H.hand⟩ ⟨sit_of F' N' (fun a o e => S.sit.lt e) S.sit.low (Nat.lt_of_lt_of_le (modules_low (H.T.keeps st).nolimit) F'.above), S.kp⟩ FG B') (fun fl s' hb => ?_) fun _ _ y => y
  obtain ⟨m', μ', S', k⟩ := hb
  exact ⟨L', m', lst μ' s'.heap.objs.size, S'.fr, S'.sit.news, fun F N => k ⟨sit_of F N (fun a o e => S'.sit.lt e) S'.sit.low S.sit.big, S'.kp⟩⟩
theorem call_supE (H : Here K p loose mean mg mb A env h₀ L) (B : Below A₀ base outer h₀) (hA : A.frames = some (env :: outer)) (S : At s0 h₀ L s m μ)
    (ho : K.lookup f = some ⟨oc, od, .func (fnX name qual params body scope [("__class__", 768)] dV kV doc pm an cdv ct), osl⟩) (hcd : codeIn K cdv qual = true) (hroom : A.depth < recursionLimit)
    (hbind : BindsTo s (fnX name qual params body scope [("__class__", 768)] dV kV doc pm an cdv ct) args binds) (hloc : ∀ y ∈ binds, scope.names.lookup y.1 = some .local)
    (h : ∀ g L' s₁, Here K p loose mean mg mb (A.deeper (ksEnv qual scope L' f cdv 768)) (ksEnv qual scope L' f cdv 768) g L' → At s0 g L' s₁ (fun y => binds.reverse.lookup y) μ → Fr h₀ L g m → Below A base (env :: outer) g →
      _root_.PySem.wpAt (model P0 w) (A.deeper (ksEnv qual scope L' f cdv 768)) (.func body (ksEnv qual scope L' f cdv 768)) (execs body (ksEnv qual scope L' f cdv 768))
        (fun fl s' => Back s0 h₀ L m g L' R (match fl with | .ret v => v | _ => .none) s')
        (fun e s' => wpAny (model P0 w) (A.deeper (ksEnv qual scope L' f cdv 768)) (leaving (ksEnv qual scope L' f cdv 768) e) (fun _ s'' => R (.error e) s'') (fun e' s'' => R (.error e') s'') s')
        s₁)
    (hcell : ∀ x ∈ scope.names, x.2 ≠ .cell) (hco : scope.isCoroutine = false := by rfl) (hgen : scope.isGenerator = false := by rfl) (hk : scope.kind = .function := by rfl) :
    codeAny (model P0 w) A (.call (.ref f) args) R s := by
  refine ks_code_super B S.fr H.X S.sit.news H.T hA H.frame H.kind ho hcd hroom hbind hloc (fun g L' h₁ FG F' N' B' X' T' l => ?_) hcell hco hgen hk
  refine ks_wpAt_mono (h g L' _ ⟨X', T', ⟨_, _, _, B', Around.frames_deeper hA⟩, rfl, hk, H.hand⟩ ⟨sit_of F' N' (fun a o e => S.sit.lt e) S.sit.low (Nat.lt_of_lt_of_le (modules_low T'.nolimit) F'.above), S.kp⟩ FG B') (fun fl s' hb => ?_) fun _ _ y => y
  obtain ⟨m', μ', S', k⟩ := hb
  exact ⟨L', m', lst μ' s'.heap.objs.size, S'.fr, S'.sit.news, fun F N => k ⟨sit_of F N (fun a o e => S'.sit.lt e) S'.sit.low S.sit.big, S'.kp⟩⟩

theorem call_defC (H : Here K p loose mean mg mb A env h₀ L) (B : Below A₀ base [] h₀) (hA : A.frames = some [env]) (S : At s0 h₀ L s m μ)
    (ho : K.lookup f = some ⟨oc, od, .func (fnX name qual params body scope [] dV kV doc pm an cdv ct), osl⟩) (hcd : codeIn K cdv qual = true) (hroom : A.depth < recursionLimit)
    (hbind : BindsTo s (fnX name qual params body scope [] dV kV doc pm an cdv ct) args binds) (hloc : ∀ y ∈ binds, scope.names.lookup y.1 = some .local)
    (h : ∀ g L' s₁, Here K p loose mean mg mb (A.deeper (envOf qual scope L' f cdv)) (envOf qual scope L' f cdv) g L' → At s0 g L' s₁ (fun y => binds.reverse.lookup y) μ → Fr h₀ L g m → Below A base [env] g → KtsDicts ([env].filterMap (·.frame)) g →
      wpAny (model P0 w) (A.deeper (envOf qual scope L' f cdv)) (execs body (envOf qual scope L' f cdv))
        (fun fl s' => ∃ g' m' μ', KtsTurn ([env].filterMap (·.frame)) g g' ∧ At s0 g' L' s' m' μ' ∧ (At s0 h₀ L s' m μ' → R (.ok (.ret (match fl with | .ret v => v | _ => .none))) s'))
        (fun e s' => wpAny (model P0 w) (A.deeper (envOf qual scope L' f cdv)) (leaving (envOf qual scope L' f cdv) e) (fun _ s'' => R (.error e) s'') (fun e' s'' => R (.error e') s'') s')
        s₁)
    (hcell : ∀ x ∈ scope.names, x.2 ≠ .cell) (hco : scope.isCoroutine = false := by rfl) (hgen : scope.isGenerator = false := by rfl) (hk : scope.kind = .function := by rfl) :
    codeAny (model P0 w) A (.call (.ref f) args) R s := by
  have X := H.X.keeps S.fr.keep
  have N := S.sit.news
  refine codeAny_call_def (fd := fnOf name qual params body scope dV kV doc pm an cdv ct) (body := body) (binds := binds) hroom (X _ _ ho) rfl (H.T.nolimit.keeps S.fr.keep) (codeRec_of X hcd) rfl hbind hcell hloc (fun h₁ hns hk₁ => ?_) hco hgen hk
  obtain ⟨FG, B', st, _⟩ := groundX (R := R) B S.fr N hA H.frame H.kind
  have F' : Fr (hideAll s.heap ((lst μ s.heap.objs.size).map (·.1))) s.heap.objs.size h₁ (fun y => binds.reverse.lookup y) := ⟨hns, fun b o e => hk₁ b o (of_hideAll _ e), Nat.le_of_eq (hideAll_size _ _)⟩
  have N' : News (hideAll s.heap ((lst μ s.heap.objs.size).map (·.1))) s.heap.objs.size h₁ (lst μ s.heap.objs.size) := fun p hp => ⟨hk₁ _ _ (N p hp).1, Nat.ne_of_lt (Heap.lt_size (N p hp).1), hideAll_none _ (List.mem_map_of_mem hp)⟩
  obtain ⟨oL, es, ep, hLg, hLd, hLk, hLf⟩ := FG.ns
  have hfm : [env].filterMap (·.frame) = [L] := by simp [H.frame]
  refine wpAny_mono (h _ s.heap.objs.size _ ⟨H.X.keeps st, H.T.keeps st, ⟨_, _, _, B', Around.frames_deeper hA⟩, rfl, hk, H.hand⟩ ⟨sit_of F' N' (fun a o e => S.sit.lt e) S.sit.low (Nat.lt_of_lt_of_le (modules_low (H.T.keeps st).nolimit) F'.above), S.kp⟩ FG B' (fun b hb => ?_)) (fun fl s' hl => ?_) fun _ _ y => y
  · rw [hfm] at hb
    cases List.mem_singleton.mp hb
    exact ⟨oL, es, ep, hLg, hLd⟩
  obtain ⟨g', m', μ', T', S', k⟩ := hl
  rw [hfm] at T'
  have nL₀ : h₀.get? L = none := kts_self S.fr
  obtain ⟨sl, hs⟩ := T'.up hLg
  refine k ⟨sit_of (n := s'.heap.objs.size) ⟨⟨_, es, ep, S'.fr.keep _ _ hs, hLd, hLk, hLf⟩, fun b o e => S'.fr.keep b o (T'.other b o (st b o e) (fun q => by
    cases List.mem_singleton.mp q
    rw [nL₀] at e; cases e)), S.fr.above⟩ (fun p hp => ⟨(S'.sit.news p hp).1, fun q => ?_, ?_⟩) (fun a o e => S'.sit.lt e) S'.sit.low S.sit.big, S'.kp⟩
  · have := (S'.sit.news p hp).2.2; rw [q, hs] at this; cases this
  · cases q : h₀.get? p.1 with
    | none => rfl
    | some o =>
      obtain ⟨sl', hs'⟩ := T'.up (st _ _ q)
      have := (S'.sit.news p hp).2.2
      rw [hs'] at this
      cases this
end
end Mine
end
section -- HalfB
open PySem PySem.W PySem.Calls PyProof.Rows PyProof.V PySem.Spec
set_option maxRecDepth 100000
set_option linter.unusedVariables false
namespace Mine

def ov : Option (Int × Tok) → Value
  | none => .none
  | some (i, t) => .int i t
def halfKw : Option (Int × Tok) → Option (Int × Tok) → List (Str × Value)
  | none, none => []
  | some (c, t), none => [("cw", .int c t)]
  | none, some (d, t) => [("ccw", .int d t)]
  | some (c, t), some (d, u) => [("cw", .int c t), ("ccw", .int d u)]
def Bad (G : PE) (a : Int) (cv dv : Option (Int × Tok)) : Prop :=
  if G.ord a = [] then cv ≠ none ∨ dv ≠ none else
    match cv, dv with
    | some (c, _), none => c ∉ G.ord a
    | none, some (d, _) => d ∉ G.ord a
    | _, _ => True

section
variable {w : World} {K : Frag} {p : Program} {loose : List Str} {mean : ExcName → Option Value} {mg mb : Str → Option Value}
variable {A A₀ : Around} {env : Env} {base h₀ : Heap} {outer : List Env} {L : Addr} {m : Str → Option Value} {μ : Mu} {s0 : Anc} {s : Shared} {E : Value → Shared → Prop} {ad : Adr} {G : PE} {R : Result → Shared → Prop}

theorem half_bad {a b : Int} {ta tb : Tok} {cv dv : Option (Int × Tok)} (FC : FCls K) (FH : FHalf K) (FR : FExc K) (H : Here K p loose mean mg mb A env h₀ L) (B : Below A₀ base outer h₀) (hA : A.frames = some (env :: outer)) (S : At s0 h₀ L s m μ) (D : Dr w μ ad G)
    (hbad : Bad G a cv dv) (hroom : A.depth + 2 < recursionLimit)
    (hE : ∀ e s', Fly base outer env h₀ L m μ s0 s' e → R (.error (.ref e)) s') :
    codeAny (model P0 w) A (.call (.ref 825) ⟨[.ref (ad .x), .int a ta, .int b tb], halfKw cv dv⟩) R s := by
  obtain ⟨oc, od, doc, pm, an, cda, ct, osl, ccl, cdd, vs, ccs, file, tf, ho, hcd, hcode, hvs, hfile, hb⟩ := FH.half
  refine call_supE (binds := halfBinds (.ref (ad .x)) (.int a ta) (.int b tb) (ov cv) (ov dv)) H B hA S ho hcd (by omega) (kp_binds (H.X.keeps S.fr.keep) fun Sg => by
    have := hb Sg (.ref (ad .x)) (.int a ta) (.int b tb) (ov cv) (ov dv)
    rcases cv with _ | ⟨c, t⟩ <;> rcases dv with _ | ⟨d, u⟩
    · exact this.2.2.2
    · exact this.2.1
    · exact this.1
    · exact this.2.2.1) (locs (by with_unfolding_all rfl)) (fun g L' s₁ H' S1 FG B' => ?_) (by decide)
  refine ks_wpAt_execs_cons (_root_.PySem.wpAt_of_wpAny (wpAny_Assign_Name (MethodCall_ (attrX S1 H' FC D (by rfl) FC.succ (v := .ref (ad .sd)) (fun es n h => ddo_succ h) rfl fun s2 S2 => ?_))))
  obtain ⟨osd, esd, csd⟩ := D.at_ .sd trivial
  refine dGetM S2 esd csd (cwB (wpAny_items_cons (nameX_L S2.fr (by rfl) (wpAny_items_nil (getSuccs S2 D fun s3 S3 => stL S3 fun s4 S4 => ?_)))))
  clear S1 S2 S3
  have go : ∀ s1 s2 e vs m1, At s0 g L' s1 m1 μ → Heap.MadeExcOf s1.heap s2.heap e (.ref 200) vs → Keep s0 s2 →
      wpAny (model P0 w) (A.deeper (halfEnv L' cda)) (leaving (halfEnv L' cda) (.ref e)) (fun _ s'' => R (.error (.ref e)) s'') (fun e' s'' => R (.error e') s'') s2 := fun s1 s2 e vs m1 S hx kp =>
    leaveRaise B' S hx kp rfl rfl fun h' t n R1 U1 hn => hE e _ ⟨g, t, vs, n, FG, R1, U1, hn, kp⟩
  refine ks_wpAt_execs_cons (ks_wpAt_If (_root_.PySem.wpAt_of_wpAny (wpAny_isTrue_value (nameX_L S4.fr (by rfl) (truthSuccs S4 D fun s5 S5 => ?_)))))
  by_cases hemp : G.ord a = []
  · rw [if_neg (by simp [hemp])]
    unfold Bad at hbad
    rw [if_pos hemp] at hbad
    refine ks_wpAt_execs_cons (ks_wpAt_If (_root_.PySem.wpAt_of_wpAny (wpAny_isTrue_BoolOp (wpAny_allTrue_Or_cons (wpAny_isTrue_Compare1 (nameX_L S5.fr (by rfl) (wpAny_Constant_none (isNot_none (wpAny_truthy_bool ?_)))) (by rfl))))))
    rcases cv with _ | ⟨c, tc⟩
    · rw [if_neg (by simp [ov])]
      refine wpAny_allTrue_Or_cons (wpAny_isTrue_Compare1 (nameX_L S5.fr (by rfl) (wpAny_Constant_none (isNot_none (wpAny_truthy_bool ?_)))) (by rfl))
      rcases dv with _ | ⟨d, td⟩
      · simp at hbad
      · rw [if_pos (by rfl), if_pos rfl]
        exact _root_.PySem.wpAt_of_wpAny (wpAny_execs_cons (raiseX FR S5 H' H'.hand fun s1 s2 e vs S hx kp => go s1 s2 e vs _ S hx kp))
    · rw [if_pos (by rfl), if_pos rfl]
      exact _root_.PySem.wpAt_of_wpAny (wpAny_execs_cons (raiseX FR S5 H' H'.hand fun s1 s2 e vs S hx kp => go s1 s2 e vs _ S hx kp))
  rw [if_pos (by simp [hemp])]
  unfold Bad at hbad
  rw [if_neg hemp] at hbad
  have hak : a ∈ G.ks := Classical.byContradiction fun q => hemp (D.ok.out a q)
  obtain ⟨oS, eS, cS⟩ := D.at_ (.S a) hak
  have l1 : ((G.ord a).map fun k => (k, Value.ref (ad (.D a k)))).length ≤ sizeLine := le_line (by have := D.len5 a; simp; omega)
  have hsu : (if a ∈ G.ks then Value.ref (ad (.S a)) else .none) = .ref (ad (.S a)) := if_pos hak
  rw [hsu] at S5
  clear S4
  refine ks_wpAt_execs_cons (_root_.PySem.wpAt_of_wpAny (wpAny_Assign_Name (Subscript_ (callT "list" S5 H' FH.list (by decide +kernel) (by decide) (wpAny_items_cons (Subscript_ (attrX S5 H' FC D (by rfl) FC.succ (v := .ref (ad .sd)) (fun es n h => ddo_succ h) rfl fun s6 S6 => nameX_L S6.fr (by rfl) ?_)))))))
  refine dItem S6 esd csd (intKind_is ..) (by rw [valueAt_map, if_pos hak]) fun s7 S7 => wpAny_items_nil ?_
  refine dList S7 H'.hand eS cS l1 fun l ol vl s8 hl0 S8 hlo hlen hvl => ?_
  refine wpAny_UnaryOp (cInt S8 fun _ s9 S9 => negI S9 fun _ s10 S10 => lastKey S10 hlo hlen hvl hemp (D.len5 a) fun tl => ?_)
  refine stL (S10.drop hl0) fun s11 S11 => ?_
  clear S5 S6 S7 S8 S9 S10
  refine ks_wpAt_execs_cons (ks_wpAt_If (_root_.PySem.wpAt_of_wpAny (wpAny_isTrue_Compare1 (nameX_L S11.fr (by rfl) (wpAny_Constant_none (isNot_none (wpAny_truthy_bool ?_)))) (by rfl))))
  rcases cv with _ | ⟨c, tc⟩
  · rw [if_neg (by simp [ov])]
    refine ks_wpAt_execs_cons (ks_wpAt_If (_root_.PySem.wpAt_of_wpAny (wpAny_isTrue_Compare1 (nameX_L S11.fr (by rfl) (wpAny_Constant_none (isNot_none (wpAny_truthy_bool ?_)))) (by rfl))))
    rcases dv with _ | ⟨d, td⟩
    · rw [if_neg (by simp [ov])]
      exact _root_.PySem.wpAt_of_wpAny (wpAny_execs_cons (raiseX FR S11 H' H'.hand fun s1 s2 e vs S hx kp => go s1 s2 e vs _ S hx kp))
    · rw [if_pos (by rfl)]
      refine ks_wpAt_execs_cons (ks_wpAt_If (_root_.PySem.wpAt_of_wpAny (wpAny_isTrue_Compare1 (nameX_L S11.fr (by rfl) (nameX_L S11.fr (by rfl) (dNotIn S11 eS cS (intKind_is _ _ _ td) fun s12 S12 => wpAny_truthy_bool ?_))) (by rfl))))
      rw [valueAt_map, if_neg hbad, if_pos (by rfl)]
      exact _root_.PySem.wpAt_of_wpAny (wpAny_execs_cons (raiseX FR S12 H' H'.hand fun s1 s2 e vs S hx kp => go s1 s2 e vs _ S hx kp))
  · rw [if_pos (by rfl)]
    refine ks_wpAt_execs_cons (ks_wpAt_If (_root_.PySem.wpAt_of_wpAny (wpAny_isTrue_Compare1 (nameX_L S11.fr (by rfl) (nameX_L S11.fr (by rfl) (dNotIn S11 eS cS (intKind_is _ _ _ tc) fun s12 S12 => wpAny_truthy_bool ?_))) (by rfl))))
    rw [valueAt_map]
    by_cases hc : c ∈ G.ord a
    · rw [if_pos hc, if_neg (by simp)]
      refine _root_.PySem.wpAt_of_wpAny (wpAny_execs_nil ?_)
      refine ks_wpAt_execs_cons (ks_wpAt_If (_root_.PySem.wpAt_of_wpAny (wpAny_isTrue_Compare1 (nameX_L S12.fr (by rfl) (wpAny_Constant_none (isNot_none (wpAny_truthy_bool ?_)))) (by rfl))))
      rcases dv with _ | ⟨d, td⟩
      · exact absurd hc hbad
      · rw [if_pos (by rfl)]
        exact _root_.PySem.wpAt_of_wpAny (wpAny_execs_cons (raiseX FR S12 H' H'.hand fun s1 s2 e vs S hx kp => go s1 s2 e vs _ S hx kp))
    · rw [if_neg hc, if_pos (by rfl)]
      exact _root_.PySem.wpAt_of_wpAny (wpAny_execs_cons (raiseX FR S12 H' H'.hand fun s1 s2 e vs S hx kp => go s1 s2 e vs _ S hx kp))
end
end Mine
end
section -- Wrap
open PySem PySem.W PySem.Calls PyProof.Rows PyProof.V PySem.Spec
set_option maxRecDepth 100000
set_option linter.unusedVariables false
namespace Mine

def halfRes (G : PE) (a b : Int) (cv dv : Option Int) : Option PE :=
  if G.ord a = [] then (match cv, dv with | none, none => some (G.halfFirst a b) | _, _ => none) else
    match cv, dv with
    | some c, none => if c ∈ G.ord a then some (G.halfCw a b c) else none
    | none, some d => if d ∈ G.ord a then some (G.halfCcw a b d) else none
    | _, _ => none
def PE.Ring (G : PE) (a : Int) : Prop := ∀ c ∈ G.ord a, G.cw a c ∈ G.ord a ∧ G.ccw a c ∈ G.ord a

def Post (w : World) (base : Heap) (outer : List Env) (env : Env) (h₀ : Heap) (L : Addr) (m : Str → Option Value) (μ : Mu) (s0 : Anc) (ad : Adr) (G : PE) (R : Result → Shared → Prop) (o : Option PE) : Prop :=
  (∀ G', o = some G' → ∀ s' μ' ad', At s0 h₀ L s' m μ' → Dr w μ' ad' G' → Step μ ad G μ' ad' G' → R (.ok (.ret .none)) s') ∧ (o = none → ∀ e s', Fly base outer env h₀ L m μ s0 s' e → R (.error (.ref e)) s')

structure FPut (K : Frag) : Prop where
  ccw : FnIn K 839 "add_half_edge_ccw" "PlanarEmbedding.add_half_edge_ccw" (inS 16 8) [] .none .none
  cw : FnIn K 846 "add_half_edge_cw" "PlanarEmbedding.add_half_edge_cw" (inS 16 9) [] .none .none
  first : FnIn K 874 "add_half_edge_first" "PlanarEmbedding.add_half_edge_first" (inS 16 13) [] .none .none
  put : FnIn K 922 "_law_put" "_law_put" (topS 19) [] .none .none
  mCcw : MethIn K "add_half_edge_ccw" 839
  mCw : MethIn K "add_half_edge_cw" 846
  mFirst : MethIn K "add_half_edge_first" 874
structure FAll (K : Frag) : Prop where
  E : FEdge K
  C : FCls K
  S : FSup K
  H : FHalf K
  X : FExc K
  P : FPut K

section
variable {w : World} {K : Frag} {p : Program} {loose : List Str} {mean : ExcName → Option Value} {mg mb : Str → Option Value}
variable {A A' A₀ : Around} {env env' : Env} {base h₀ : Heap} {outer : List Env} {L : Addr} {m : Str → Option Value} {μ : Mu} {s0 : Anc} {s : Shared} {E : Value → Shared → Prop} {ad : Adr} {G : PE} {R : Result → Shared → Prop}

theorem half_res {a b : Int} {ta tb : Tok} {cv dv : Option (Int × Tok)} (F : FAll K) (H : Here K p loose mean mg mb A env h₀ L) (B : Below A₀ base outer h₀) (hA : A.frames = some (env :: outer)) (S : At s0 h₀ L s m μ) (D : Dr w μ ad G) (W : G.Same)
    (ha5 : 0 ≤ a ∧ a < 5) (hb5 : 0 ≤ b ∧ b < 5) (hnew : b ∉ G.ord a) (ring : G.Ring a) (hroom : A.depth + 2 < recursionLimit)
    (post : Post w base outer env h₀ L m μ s0 ad G R (halfRes G a b (cv.map (·.1)) (dv.map (·.1)))) :
    codeAny (model P0 w) A (.call (.ref 825) ⟨[.ref (ad .x), .int a ta, .int b tb], halfKw cv dv⟩) R s := by
  obtain ⟨p1, p2⟩ := post
  have bad : Bad G a cv dv → halfRes G a b (cv.map (·.1)) (dv.map (·.1)) = none → codeAny (model P0 w) A (.call (.ref 825) ⟨[.ref (ad .x), .int a ta, .int b tb], halfKw cv dv⟩) R s := fun hb hn =>
    half_bad F.C F.H F.X H B hA S D hb hroom (p2 hn)
  by_cases hemp : G.ord a = []
  · rcases cv with _ | ⟨c, tc⟩ <;> rcases dv with _ | ⟨d, td⟩
    · exact half_first (kw := []) (.inl rfl) F.E F.C F.S F.H H S D W ha5 hb5 hemp hroom (p1 _ (by simp [halfRes, hemp]))
    all_goals exact bad (by simp [Bad, hemp]) (by simp [halfRes, hemp])
  · rcases cv with _ | ⟨c, tc⟩ <;> rcases dv with _ | ⟨d, td⟩
    · exact bad (by simp [Bad, hemp]) (by simp [halfRes, hemp])
    · by_cases hd : d ∈ G.ord a
      · exact half_ccw F.E F.C F.S F.H H S D W ha5 hb5 hnew hd (ring d hd).1 hroom (p1 _ (by simp [halfRes, hemp, hd]))
      · exact bad (by simp [Bad, hemp, hd]) (by simp [halfRes, hemp, hd])
    · by_cases hc : c ∈ G.ord a
      · exact half_cw F.E F.C F.S F.H H S D W ha5 hb5 hnew hc (ring c hc).2 hroom (p1 _ (by simp [halfRes, hemp, hc]))
      · exact bad (by simp [Bad, hemp, hc]) (by simp [halfRes, hemp, hc])
    · exact bad (by simp [Bad, hemp]) (by simp [halfRes, hemp])

theorem methKW {x nm : Str} {np pos apos : Pos} {cn : Str} {cs : Scope} {a f : Addr} {ccd : Value} {cl : List (Str × Addr)} {e : PySem.Expr} {rest : List PySem.Expr} {kws : List Keyword} {pl : Sem Bool} {Q : Value → Shared → Prop}
    (S : At s0 h₀ L s m μ) (H : Here K p loose mean mg mb A' env' h₀ L) (FC : FCls K) (D : Dr w μ ad G) (hm : m x = some (.ref (ad .x))) (M : MethIn K nm f) (hnm : nm ∈ meths)
    (h : wpAny (model P0 w) A (spliced (backTo pos (starEach (e :: rest) (envX cn cs L a ccd cl)))) (fun vs s₁ => wpAny (model P0 w) A (evalAll ((backToKw pos (keywordEach kws (envX cn cs L a ccd cl))).map (·.2)))
      (fun ks s₂ => K.In s₂.heap ∧ codeAny (model P0 w) A (.call (.ref f) ⟨.ref (ad .x) :: vs, ((backToKw pos (keywordEach kws (envX cn cs L a ccd cl))).filterMap (·.1)).zip ks⟩) (fun r s' => match r with | .ok (.ret v) => Q v s' | .ok _ => False | .error e => E e s') s₂) E s₁) E s)
    (hall : (backToKw pos (keywordEach kws (envX cn cs L a ccd cl))).all (·.1.isSome) = true := by rfl)
    (hk : cs.kind = .function := by rfl) (hx : (envX cn cs L a ccd cl).kindOf x = some .local := by rfl) (hd : (x == ("__debug__" : Str)) = false := by decide)
    (hplain : ((backTo pos (starEach (e :: rest) (envX cn cs L a ccd cl))).any (·.1) || (backToKw pos (keywordEach kws (envX cn cs L a ccd cl))).any (·.1.isNone)) = false := by rfl)
    (hst : starEach (e :: rest) (envX cn cs L a ccd cl) = (false, eval e (envX cn cs L a ccd cl)) :: starEach rest (envX cn cs L a ccd cl) := by rfl)
    (he : eval (.Call (.Attribute (.Name x np) nm apos) (e :: rest) kws pos) (envX cn cs L a ccd cl) = (do
      let ov ← eval (.Name x np) (envX cn cs L a ccd cl)
      standAt apos.atName
      let (f, first) ← holding [ov] (getMethod ov nm pl)
      callWith pos f first (backTo pos (starEach (e :: rest) (envX cn cs L a ccd cl))) (backToKw pos (keywordEach kws (envX cn cs L a ccd cl)))) := by rfl) :
    wpAny (model P0 w) A (eval (.Call (.Attribute (.Name x np) nm apos) (e :: rest) kws pos) (envX cn cs L a ccd cl)) Q E s := by
  refine methodCall_KW (pl := pl) (nameX_L S.fr hm ?_ hk hx hd) he
  obtain ⟨es, n, hD, I⟩ := D.inst S
  refine method_inst S.fr H.X I FC.plain M.1 M.2.1 ?_ ?_
  · obtain ⟨es', n', e, _, _, _, _, hno⟩ := hD
    have : es = es' := by
      have h1 : Data.dict es.toArray n = Data.dict es'.toArray n' := congrArg Obj.data e
      injection h1 with h1 _
      simpa using congrArg Array.toList h1
    subst this
    exact hno nm hnm
  · refine callWith_KW H.X M.2.2 hall ?_ hplain hst
    exact wpAny_mono h (fun vs s₁ h₁ => wpAny_mono h₁ (fun ks s₂ h₂ => ⟨h₂.1, wpAny_call h₂.2⟩) fun _ _ x => x) fun _ _ x => x

theorem wrap_ccw {a b r : Int} {ta tb tr : Tok} (F : FAll K) (H : Here K p loose mean mg mb A env h₀ L) (B : Below A₀ base outer h₀) (hA : A.frames = some (env :: outer)) (S : At s0 h₀ L s m μ) (D : Dr w μ ad G) (W : G.Same)
    (ha5 : 0 ≤ a ∧ a < 5) (hb5 : 0 ≤ b ∧ b < 5) (hnew : b ∉ G.ord a) (ring : G.Ring a) (hroom : A.depth + 3 < recursionLimit)
    (post : Post w base outer env h₀ L m μ s0 ad G R (halfRes G a b (some r) none)) :
    codeAny (model P0 w) A (.call (.ref 839) ⟨[.ref (ad .x), .int a ta, .int b tb, .int r tr], []⟩) R s := by
  obtain ⟨oc, od, doc, pm, an, cdv, ct, osl, ho, hcd⟩ := F.P.ccw
  refine call_defE (binds := [("self", .ref (ad .x)), ("start_node", .int a ta), ("end_node", .int b tb), ("reference_neighbor", .int r tr)]) H B hA S ho hcd (by omega) (BindsTo.of_eq (by with_unfolding_all rfl)) (locs (by with_unfolding_all rfl)) (fun g L' s₁ H' S1 FG B' => ?_) (by decide)
  refine wpAny_execs_cons (wpAny_Expr_any (methKW S1 H' F.C D (by rfl) F.C.half (by decide) (wpAny_items_cons (nameX_L S1.fr (by rfl) (wpAny_items_cons (nameX_L S1.fr (by rfl) (wpAny_items_nil ?_)))))))
  refine kwAll_cons (nameX_L S1.fr (by rfl) (kwAll_nil ⟨H'.X.keeps S1.fr.keep, ?_⟩))
  refine half_res (cv := some (r, tr)) (dv := none) F H' B' (Around.frames_deeper hA) S1 D W ha5 hb5 hnew ring (by show A.depth + 1 + 2 < _; omega) ⟨fun G' hG s' μ' ad' S' D' T' => ?_, fun hn e s' Fl => ?_⟩
  · exact wpAny_execs_nil (Back.intro S' fun k => post.1 G' hG _ _ _ k D' T')
  · exact leaveOn B' FG Fl fun e s' Fl => post.2 hn e s' Fl
end
end Mine
end
section -- Wrap2
open PySem PySem.W PySem.Calls PyProof.Rows PyProof.V PySem.Spec
set_option maxRecDepth 100000
set_option linter.unusedVariables false
namespace Mine
def firstRes (G : PE) (a b : Int) : PE := if G.ord a = [] then G.halfFirst a b else G.halfCw a b (G.ord a).getLast!
section
variable {w : World} {K : Frag} {p : Program} {loose : List Str} {mean : ExcName → Option Value} {mg mb : Str → Option Value}
variable {A A' A₀ : Around} {env env' : Env} {base h₀ : Heap} {outer : List Env} {L : Addr} {m : Str → Option Value} {μ : Mu} {s0 : Anc} {s : Shared} {E : Value → Shared → Prop} {ad : Adr} {G : PE} {R : Result → Shared → Prop}

theorem wrap_cw {a b r : Int} {ta tb tr : Tok} (F : FAll K) (H : Here K p loose mean mg mb A env h₀ L) (B : Below A₀ base outer h₀) (hA : A.frames = some (env :: outer)) (S : At s0 h₀ L s m μ) (D : Dr w μ ad G) (W : G.Same)
    (ha5 : 0 ≤ a ∧ a < 5) (hb5 : 0 ≤ b ∧ b < 5) (hnew : b ∉ G.ord a) (ring : G.Ring a) (hroom : A.depth + 3 < recursionLimit)
    (post : Post w base outer env h₀ L m μ s0 ad G R (halfRes G a b none (some r))) :
    codeAny (model P0 w) A (.call (.ref 846) ⟨[.ref (ad .x), .int a ta, .int b tb, .int r tr], []⟩) R s := by
  obtain ⟨oc, od, doc, pm, an, cdv, ct, osl, ho, hcd⟩ := F.P.cw
  refine call_defE (binds := [("self", .ref (ad .x)), ("start_node", .int a ta), ("end_node", .int b tb), ("reference_neighbor", .int r tr)]) H B hA S ho hcd (by omega) (BindsTo.of_eq (by with_unfolding_all rfl)) (locs (by with_unfolding_all rfl)) (fun g L' s₁ H' S1 FG B' => ?_) (by decide)
  refine wpAny_execs_cons (wpAny_Expr_any (methKW S1 H' F.C D (by rfl) F.C.half (by decide) (wpAny_items_cons (nameX_L S1.fr (by rfl) (wpAny_items_cons (nameX_L S1.fr (by rfl) (wpAny_items_nil ?_)))))))
  refine kwAll_cons (nameX_L S1.fr (by rfl) (kwAll_nil ⟨H'.X.keeps S1.fr.keep, ?_⟩))
  refine half_res (cv := none) (dv := some (r, tr)) F H' B' (Around.frames_deeper hA) S1 D W ha5 hb5 hnew ring (by show A.depth + 1 + 2 < _; omega) ⟨fun G' hG s' μ' ad' S' D' T' => ?_, fun hn e s' Fl => ?_⟩
  · exact wpAny_execs_nil (Back.intro S' fun k => post.1 G' hG _ _ _ k D' T')
  · exact leaveOn B' FG Fl fun e s' Fl => post.2 hn e s' Fl

theorem wrap_first {a b : Int} {ta tb : Tok} (F : FAll K) (H : Here K p loose mean mg mb A env h₀ L) (S : At s0 h₀ L s m μ) (D : Dr w μ ad G) (W : G.Same)
    (ha5 : 0 ≤ a ∧ a < 5) (hb5 : 0 ≤ b ∧ b < 5) (hnew : b ∉ G.ord a) (ring : G.Ring a) (hroom : A.depth + 3 < recursionLimit)
    (post : ∀ s' μ' ad', At s0 h₀ L s' m μ' → Dr w μ' ad' (firstRes G a b) → Step μ ad G μ' ad' (firstRes G a b) → R (.ok (.ret .none)) s') :
    codeAny (model P0 w) A (.call (.ref 874) ⟨[.ref (ad .x), .int a ta, .int b tb], []⟩) R s := by
  obtain ⟨oc, od, doc, pm, an, cdv, ct, osl, ho, hcd⟩ := F.P.first
  refine call_def (binds := [("self", .ref (ad .x)), ("start_node", .int a ta), ("end_node", .int b tb)]) H S ho hcd (by omega) (BindsTo.of_eq (by with_unfolding_all rfl)) (locs (by with_unfolding_all rfl)) (fun g L' s₁ H' S1 _ => ?_) (by decide)
  refine wpAny_execs_cons (wpAny_Assign_Name (MethodCall_ (attrX S1 H' F.C D (by rfl) F.C.succ (v := .ref (ad .sd)) (fun es n h => ddo_succ h) rfl fun s2 S2 => ?_)))
  obtain ⟨osd, esd, csd⟩ := D.at_ .sd trivial
  refine dGetM S2 esd csd (cwB (wpAny_items_cons (nameX_L S2.fr (by rfl) (wpAny_items_nil (getSuccs S2 D fun s3 S3 => stL S3 fun s4 S4 => ?_)))))
  clear S1 S2 S3
  refine wpAny_execs_cons (wpAny_Assign_Name (wpAny_IfExp (wpAny_isTrue_value (nameX_L S4.fr (by rfl) (truthSuccs S4 D fun s5 S5 => ?_)))))
  unfold firstRes at post
  by_cases hemp : G.ord a = []
  · rw [if_neg (by simp [hemp])]
    rw [if_pos hemp] at post
    refine wpAny_Constant_none (stL S5 fun s6 S6 => ?_)
    refine wpAny_execs_cons (wpAny_Expr_any (methKW S6 H' F.C D (by rfl) F.C.half (by decide) (wpAny_items_cons (nameX_L S6.fr (by rfl) (wpAny_items_cons (nameX_L S6.fr (by rfl) (wpAny_items_nil ?_)))))))
    refine kwAll_cons (nameX_L S6.fr (by rfl) (kwAll_nil ⟨H'.X.keeps S6.fr.keep, ?_⟩))
    refine half_first (.inr rfl) F.E F.C F.S F.H H' S6 D W ha5 hb5 hemp (by show A.depth + 1 + 2 < _; omega) fun s' μ' ad' S' D' T' => ?_
    exact wpAny_execs_nil (Back.intro S' fun k => post _ _ _ k D' T')
  rw [if_pos (by simp [hemp])]
  rw [if_neg hemp] at post
  have hak : a ∈ G.ks := Classical.byContradiction fun q => hemp (D.ok.out a q)
  obtain ⟨oS, eS, cS⟩ := D.at_ (.S a) hak
  have l1 : ((G.ord a).map fun k => (k, Value.ref (ad (.D a k)))).length ≤ sizeLine := le_line (by have := D.len5 a; simp; omega)
  have hsu : (if a ∈ G.ks then Value.ref (ad (.S a)) else .none) = .ref (ad (.S a)) := if_pos hak
  rw [hsu] at S5
  refine Subscript_ (callT "list" S5 H' F.H.list (by decide +kernel) (by decide) (wpAny_items_cons (nameX_L S5.fr (by rfl) (wpAny_items_nil ?_))))
  refine dList S5 H'.hand eS cS l1 fun l ol vl s8 hl0 S8 hlo hlen hvl => ?_
  refine wpAny_UnaryOp (cInt S8 fun _ s9 S9 => negI S9 fun _ s10 S10 => lastKey S10 hlo hlen hvl hemp (D.len5 a) fun tl => ?_)
  refine stL (S10.drop hl0) fun s11 S11 => ?_
  rw [← getLast!_eq hemp] at S11
  refine wpAny_execs_cons (wpAny_Expr_any (methKW S11 H' F.C D (by rfl) F.C.half (by decide) (wpAny_items_cons (nameX_L S11.fr (by rfl) (wpAny_items_cons (nameX_L S11.fr (by rfl) (wpAny_items_nil ?_)))))))
  refine kwAll_cons (nameX_L S11.fr (by rfl) (kwAll_nil ⟨H'.X.keeps S11.fr.keep, ?_⟩))
  have hc : (G.ord a).getLast! ∈ G.ord a := by rw [getLast!_eq hemp]; exact List.getLast_mem hemp
  refine half_cw F.E F.C F.S F.H H' S11 D W ha5 hb5 hnew hc (ring _ hc).2 (by show A.depth + 1 + 2 < _; omega) fun s' μ' ad' S' D' T' => ?_
  exact wpAny_execs_nil (Back.intro S' fun k => post _ _ _ k D' T')
end
end Mine
end
section -- Put
open PySem PySem.W PySem.Calls PyProof.Rows PyProof.V PySem.Spec
set_option maxRecDepth 100000
set_option linter.unusedVariables false
namespace Mine
def putRes (G : PE) (a b way : Int) (r : Option Int) : Option PE :=
  if way = 0 ∨ way = 2 then halfRes G a b r none else if way = 1 ∨ way = 3 then halfRes G a b none r else some (firstRes G a b)
section
variable {w : World} {K : Frag} {p : Program} {loose : List Str} {mean : ExcName → Option Value} {mg mb : Str → Option Value}
variable {A A' A₀ : Around} {env env' : Env} {base h₀ : Heap} {outer : List Env} {L : Addr} {m : Str → Option Value} {μ : Mu} {s0 : Anc} {s : Shared} {E : Value → Shared → Prop} {ad : Adr} {G : PE} {R : Result → Shared → Prop}
  {a : Addr} {cn : Str} {cs : Scope} {ccd : Value} {cl : List (Str × Addr)}

theorem methXA {x nm : Str} {np pos apos : Pos} {f : Addr} {e : PySem.Expr} {rest : List PySem.Expr} {pl : Sem Bool} {Q : Value → Shared → Prop}
    (S : At s0 h₀ L s m μ) (H : Here K p loose mean mg mb A' env' h₀ L) (FC : FCls K) (D : Dr w μ ad G) (hm : m x = some (.ref (ad .x))) (M : MethIn K nm f) (hnm : nm ∈ meths)
    (h : wpAny (model P0 w) A (spliced (backTo pos (starEach (e :: rest) (envX cn cs L a ccd cl)))) (fun vs s₁ => K.In s₁.heap ∧ codeAny (model P0 w) A (.call (.ref f) ⟨.ref (ad .x) :: vs, []⟩) (fun r s' => match r with | .ok (.ret v) => Q v s' | .ok _ => False | .error e => E e s') s₁) E s)
    (hk : cs.kind = .function := by rfl) (hx : (envX cn cs L a ccd cl).kindOf x = some .local := by rfl) (hd : (x == ("__debug__" : Str)) = false := by decide)
    (he' : starEach (e :: rest) (envX cn cs L a ccd cl) = (false, eval e (envX cn cs L a ccd cl)) :: starEach rest (envX cn cs L a ccd cl) := by rfl) (hp : (backTo pos (starEach rest (envX cn cs L a ccd cl))).any (·.1) = false := by rfl)
    (he : eval (.Call (.Attribute (.Name x np) nm apos) (e :: rest) [] pos) (envX cn cs L a ccd cl) = (do
      let ov ← eval (.Name x np) (envX cn cs L a ccd cl)
      standAt apos.atName
      let (f, first) ← holding [ov] (getMethod ov nm pl)
      callWith pos f first (backTo pos (starEach (e :: rest) (envX cn cs L a ccd cl))) []) := by rfl) :
    wpAny (model P0 w) A (eval (.Call (.Attribute (.Name x np) nm apos) (e :: rest) [] pos) (envX cn cs L a ccd cl)) Q E s :=
  methX S H FC D hm M hnm (callWith_K H.X M.2.2 (wpAny_mono h (fun vs s₁ h₁ => ⟨h₁.1, wpAny_call h₁.2⟩) fun _ _ x => x) he' hp) hk hx hd he

theorem put_spec {a b way : Int} {ta tb tw : Tok} {bv : Option (Int × Tok)} (hway : (0 ≤ way ∧ way < 4 ∧ bv ≠ none) ∨ way = 4) (F : FAll K) (H : Here K p loose mean mg mb A env h₀ L) (B : Below A₀ base outer h₀) (hA : A.frames = some (env :: outer)) (S : At s0 h₀ L s m μ) (D : Dr w μ ad G) (W : G.Same)
    (ha5 : 0 ≤ a ∧ a < 5) (hb5 : 0 ≤ b ∧ b < 5) (hnew : b ∉ G.ord a) (ring : G.Ring a) (hroom : A.depth + 4 < recursionLimit)
    (post : Post w base outer env h₀ L m μ s0 ad G R (putRes G a b way (bv.map (·.1)))) :
    codeAny (model P0 w) A (.call (.ref 922) ⟨[.ref (ad .x), .int way tw, .int a ta, .int b tb, ov bv], []⟩) R s := by
  obtain ⟨oc, od, doc, pm, an, cdv, ct, osl, ho, hcd⟩ := F.P.put
  refine call_defE (binds := [("drawing", .ref (ad .x)), ("way", .int way tw), ("a", .int a ta), ("b", .int b tb), ("beside", ov bv)]) H B hA S ho hcd (by omega) (BindsTo.of_eq (by with_unfolding_all rfl)) (locs (by with_unfolding_all rfl)) (fun g L' s₁ H' S1 FG B' => ?_) (by decide)
  refine wpAny_execs_cons (wpAny_If (wpAny_isTrue_Compare1 (nameX_L S1.fr (by rfl) (cInt S1 fun _ s2 S2 => eq_int (wpAny_truthy_bool ?_))) (by rfl)))
  clear S1
  by_cases w0 : way = 0
  · rw [if_pos (by simp [w0])]
    obtain ⟨⟨r, tr⟩, rfl⟩ : ∃ q, bv = some q := by
      rcases hway with ⟨_, _, h⟩ | h
      · cases bv with | none => exact absurd rfl h | some q => exact ⟨q, rfl⟩
      · omega
    refine wpAny_execs_cons (wpAny_Expr_any (methKW S2 H' F.C D (by rfl) F.C.half (by decide) (wpAny_items_cons (nameX_L S2.fr (by rfl) (wpAny_items_cons (nameX_L S2.fr (by rfl) (wpAny_items_nil ?_)))))))
    refine kwAll_cons (nameX_L S2.fr (by rfl) (kwAll_nil ⟨H'.X.keeps S2.fr.keep, ?_⟩))
    rw [show putRes G a b way ((some (r, tr)).map (·.1)) = halfRes G a b (some r) none by simp [putRes, w0]] at post
    refine half_res (cv := some (r, tr)) (dv := none) F H' B' (Around.frames_deeper hA) S2 D W ha5 hb5 hnew ring (by show A.depth + 1 + 2 < _; omega) ⟨fun G' hG s' μ' ad' S' D' T' => ?_, fun hn e s' Fl => ?_⟩
    · exact wpAny_execs_nil (wpAny_execs_nil (Back.intro S' fun k => post.1 G' hG _ _ _ k D' T'))
    · exact leaveOn B' FG Fl fun e s' Fl => post.2 hn e s' Fl
  rw [if_neg (by simp [w0])]
  refine wpAny_execs_cons (wpAny_If (wpAny_isTrue_Compare1 (nameX_L S2.fr (by rfl) (cInt S2 fun _ s3 S3 => eq_int (wpAny_truthy_bool ?_))) (by rfl)))
  clear S2
  by_cases w1 : way = 1
  · rw [if_pos (by simp [w1])]
    obtain ⟨⟨r, tr⟩, rfl⟩ : ∃ q, bv = some q := by
      rcases hway with ⟨_, _, h⟩ | h
      · cases bv with | none => exact absurd rfl h | some q => exact ⟨q, rfl⟩
      · omega
    refine wpAny_execs_cons (wpAny_Expr_any (methKW S3 H' F.C D (by rfl) F.C.half (by decide) (wpAny_items_cons (nameX_L S3.fr (by rfl) (wpAny_items_cons (nameX_L S3.fr (by rfl) (wpAny_items_nil ?_)))))))
    refine kwAll_cons (nameX_L S3.fr (by rfl) (kwAll_nil ⟨H'.X.keeps S3.fr.keep, ?_⟩))
    rw [show putRes G a b way ((some (r, tr)).map (·.1)) = halfRes G a b none (some r) by simp [putRes, w1]] at post
    refine half_res (cv := none) (dv := some (r, tr)) F H' B' (Around.frames_deeper hA) S3 D W ha5 hb5 hnew ring (by show A.depth + 1 + 2 < _; omega) ⟨fun G' hG s' μ' ad' S' D' T' => ?_, fun hn e s' Fl => ?_⟩
    · exact wpAny_execs_nil (wpAny_execs_nil (wpAny_execs_nil (Back.intro S' fun k => post.1 G' hG _ _ _ k D' T')))
    · exact leaveOn B' FG Fl fun e s' Fl => post.2 hn e s' Fl
  rw [if_neg (by simp [w1])]
  refine wpAny_execs_cons (wpAny_If (wpAny_isTrue_Compare1 (nameX_L S3.fr (by rfl) (cInt S3 fun _ s4 S4 => eq_int (wpAny_truthy_bool ?_))) (by rfl)))
  clear S3
  by_cases w2 : way = 2
  · rw [if_pos (by simp [w2])]
    obtain ⟨⟨r, tr⟩, rfl⟩ : ∃ q, bv = some q := by
      rcases hway with ⟨_, _, h⟩ | h
      · cases bv with | none => exact absurd rfl h | some q => exact ⟨q, rfl⟩
      · omega
    refine wpAny_execs_cons (wpAny_Expr_any (methXA S4 H' F.C D (by rfl) F.P.mCcw (by decide) (wpAny_items_cons (nameX_L S4.fr (by rfl) (wpAny_items_cons (nameX_L S4.fr (by rfl) (wpAny_items_cons (nameX_L S4.fr (by rfl) (wpAny_items_nil ⟨H'.X.keeps S4.fr.keep, ?_⟩)))))))))
    rw [show putRes G a b way ((some (r, tr)).map (·.1)) = halfRes G a b (some r) none by simp [putRes, w2]] at post
    refine wrap_ccw F H' B' (Around.frames_deeper hA) S4 D W ha5 hb5 hnew ring (by show A.depth + 1 + 3 < _; omega) ⟨fun G' hG s' μ' ad' S' D' T' => ?_, fun hn e s' Fl => ?_⟩
    · exact wpAny_execs_nil (wpAny_execs_nil (wpAny_execs_nil (wpAny_execs_nil (Back.intro S' fun k => post.1 G' hG _ _ _ k D' T'))))
    · exact leaveOn B' FG Fl fun e s' Fl => post.2 hn e s' Fl
  rw [if_neg (by simp [w2])]
  refine wpAny_execs_cons (wpAny_If (wpAny_isTrue_Compare1 (nameX_L S4.fr (by rfl) (cInt S4 fun _ s5 S5 => eq_int (wpAny_truthy_bool ?_))) (by rfl)))
  clear S4
  by_cases w3 : way = 3
  · rw [if_pos (by simp [w3])]
    obtain ⟨⟨r, tr⟩, rfl⟩ : ∃ q, bv = some q := by
      rcases hway with ⟨_, _, h⟩ | h
      · cases bv with | none => exact absurd rfl h | some q => exact ⟨q, rfl⟩
      · omega
    refine wpAny_execs_cons (wpAny_Expr_any (methXA S5 H' F.C D (by rfl) F.P.mCw (by decide) (wpAny_items_cons (nameX_L S5.fr (by rfl) (wpAny_items_cons (nameX_L S5.fr (by rfl) (wpAny_items_cons (nameX_L S5.fr (by rfl) (wpAny_items_nil ⟨H'.X.keeps S5.fr.keep, ?_⟩)))))))))
    rw [show putRes G a b way ((some (r, tr)).map (·.1)) = halfRes G a b none (some r) by simp [putRes, w3]] at post
    refine wrap_cw F H' B' (Around.frames_deeper hA) S5 D W ha5 hb5 hnew ring (by show A.depth + 1 + 3 < _; omega) ⟨fun G' hG s' μ' ad' S' D' T' => ?_, fun hn e s' Fl => ?_⟩
    · exact wpAny_execs_nil (wpAny_execs_nil (wpAny_execs_nil (wpAny_execs_nil (wpAny_execs_nil (Back.intro S' fun k => post.1 G' hG _ _ _ k D' T')))))
    · exact leaveOn B' FG Fl fun e s' Fl => post.2 hn e s' Fl
  rw [if_neg (by simp [w3])]
  have w4 : way = 4 := by
    rcases hway with ⟨h1, h2, _⟩ | h
    · omega
    · exact h
  rw [show putRes G a b way (bv.map (·.1)) = some (firstRes G a b) by simp [putRes, w4]] at post
  refine wpAny_execs_cons (wpAny_Expr_any (methXA S5 H' F.C D (by rfl) F.P.mFirst (by decide) (wpAny_items_cons (nameX_L S5.fr (by rfl) (wpAny_items_cons (nameX_L S5.fr (by rfl) (wpAny_items_nil ⟨H'.X.keeps S5.fr.keep, ?_⟩)))))))
  refine wrap_first F H' S5 D W ha5 hb5 hnew ring (by show A.depth + 1 + 3 < _; omega) fun s' μ' ad' S' D' T' => ?_
  exact wpAny_execs_nil (wpAny_execs_nil (wpAny_execs_nil (wpAny_execs_nil (wpAny_execs_nil (Back.intro S' fun k => post.1 _ rfl _ _ _ k D' T')))))
end
end Mine
end
section -- Refuse
open PySem PySem.W PySem.Calls PyProof.Rows PyProof.V PySem.Spec
set_option maxRecDepth 100000
set_option linter.unusedVariables false
namespace Mine
section
variable {w : World} {K : Frag} {p : Program} {loose : List Str} {mean : ExcName → Option Value} {mg mb : Str → Option Value}
variable {A A' A₀ : Around} {env env' : Env} {base h₀ : Heap} {outer : List Env} {L : Addr} {m : Str → Option Value} {μ : Mu} {s0 : Anc} {s : Shared} {E : Value → Shared → Prop} {ad : Adr} {G : PE} {R : Result → Shared → Prop}
  {a : Addr} {cn : Str} {cs : Scope} {ccd : Value} {cl : List (Str × Addr)}

theorem listLit {elts : List PySem.Expr} {pos : Pos} {Q : Value → Shared → Prop}
    (h : wpAny (model P0 w) A (spliced (backTo pos (starEach elts env))) (fun vs s₁ => vs.length ≤ sizeLine ∧ ∃ m μ, At s0 h₀ L s₁ m μ ∧ ∀ l o s', μ l = none → At s0 h₀ L s' m (put μ l o) → LO vs o → Q (.ref l) s') E s) :
    wpAny (model P0 w) A (eval (.List elts pos) env) Q E s :=
  wpAny_List (wpAny_mono h (fun vs s₁ h₁ => by
    obtain ⟨hz, m, μ, S, k⟩ := h₁
    exact ⟨hz, k _ _ _ S.sit.new_none (S.heap (S.sit.push _) s₁.toks) ⟨rfl, _, rfl⟩⟩) fun _ _ x => x)
theorem eqInts {l l' : Addr} {o o' : Obj} {xs ys : List Value} {ns ms : List Int} {Q : Value → Shared → Prop} (S : At s0 h₀ L s m μ) (e : μ l = some o) (e' : μ l' = some o') (x : LO xs o) (y : LO ys o') (hi : IntsAre xs ns) (hj : IntsAre ys ms) (hu : A.units + 64 < cLine)
    (h : Q (.bool (decide (ns = ms))) s) : wpAny (model P0 w) A (compareOp .Eq (.ref l) (.ref l')) Q E s := ke_eq_ints (x.isList (S.get e)) (y.isList (S.get e')) hi hj hu h
theorem neInts {l l' : Addr} {o o' : Obj} {xs ys : List Value} {ns ms : List Int} {Q : Value → Shared → Prop} (S : At s0 h₀ L s m μ) (e : μ l = some o) (e' : μ l' = some o') (x : LO xs o) (y : LO ys o') (hi : IntsAre xs ns) (hj : IntsAre ys ms) (hu : A.units + 64 < cLine)
    (h : Q (.bool (!decide (ns = ms))) s) : wpAny (model P0 w) A (compareOp .NotEq (.ref l) (.ref l')) Q E s := ke_ne_ints (x.isList (S.get e)) (y.isList (S.get e')) hi hj hu h

theorem refused_spec {a b way r : Int} {ta tb tw tr : Tok} {rl : Addr} {ol : Obj} {items : List Value} {ri : List Int} (hf : FnIn K 929 "_law_is_refused" "_law_is_refused" (topS 20) [] .none .none) (hput : nsIn K mainGlobals "_law_put" = some (some (.ref 922))) (hputk : keepIn K (.ref 922) = true)
    (F : FAll K) (H : Here K p loose mean mg mb A env h₀ L) (B : Below A₀ base [] h₀) (hA : A.frames = some [env]) (XB : K.In base) (TB : Top p loose mean mg mb base) (S : At s0 h₀ L s m μ) (D : Dr w μ ad G) (W : G.Same)
    (hway : 0 ≤ way ∧ way < 6) (hrl : μ rl = some ol) (hlo : LO items ol) (hints : IntsAre items ri) (hri : ri = [] ↔ G.ord a = []) (h5 : ri.length ≤ 5) (hr : r ∉ G.ord a)
    (ha5 : 0 ≤ a ∧ a < 5) (hb5 : 0 ≤ b ∧ b < 5) (hnew : b ∉ G.ord a) (ring : G.Ring a) (hroom : A.depth + 5 < recursionLimit) (hu : A.units + 80 < cLine)
    (post : ∀ s', At s0 h₀ L s' m μ → R (.ok (.ret (.bool true))) s') :
    codeAny (model P0 w) A (.call (.ref 929) ⟨[.ref (ad .x), .int way tw, .int a ta, .int b tb, .ref rl, .int r tr], []⟩) R s := by
  obtain ⟨oc, od, doc, pm, an, cdv, ct, osl, ho, hcd⟩ := hf
  refine call_defC (binds := [("drawing", .ref (ad .x)), ("way", .int way tw), ("a", .int a ta), ("b", .int b tb), ("row", .ref rl), ("strange", .int r tr)]) H B hA S ho hcd (by omega) (BindsTo.of_eq (by with_unfolding_all rfl)) (locs (by with_unfolding_all rfl)) (fun g L' s₁ H' S1 FG B' KD => ?_) (by decide)
  have hlen : items.length = ri.length := hints.length
  refine wpAny_execs_cons (wpAny_Try_except ?_)
  have catch_ : ∀ (Q : Flow → Shared → Prop) (E' : Value → Shared → Prop) e s' m1 np hpos b₀ p1 p2 kk, Fly base [env] (envOf "_law_is_refused" (sScope (topS 20)) L' 929 cdv) g L' m1 μ s0 s' e →
      PassesOwnAt (model P0 w) ((A.deeper (envOf "_law_is_refused" (sScope (topS 20)) L' 929 cdv)).mark (some (.ref e))) (A.deeper (envOf "_law_is_refused" (sScope (topS 20)) L' 929 cdv)) (envOf "_law_is_refused" (sScope (topS 20)) L' 929 cdv) E' →
      (∀ g' s₂, KtsTurn ([env].filterMap (·.frame)) g g' → At s0 g' L' s₂ m1 μ → Q (.ret (.bool true)) s₂) →
      b₀ = Stmt.Return (some (.Constant (.bool true) kk p1)) p2 →
      wpAny (model P0 w) (A.deeper (envOf "_law_is_refused" (sScope (topS 20)) L' 929 cdv)) (noteFrame (.ref e) (envOf "_law_is_refused" (sScope (topS 20)) L' 929 cdv))
      (fun _ s₂ => wpAny (model P0 w) (A.deeper (envOf "_law_is_refused" (sScope (topS 20)) L' 929 cdv)) (setFlight (.ref e) none) (fun _ s₃ =>
        wpAny (model P0 w) (A.deeper (envOf "_law_is_refused" (sScope (topS 20)) L' 929 cdv)) (handleBy (.ref e) (envOf "_law_is_refused" (sScope (topS 20)) L' 929 cdv) [.ExceptHandler (some (.Name "NetworkXError" np)) none [b₀] hpos]) Q E' s₃) E' s₂) E' s' := by
    intro Q E' e s' m1 np hpos b₀ p1 p2 kk Fl pe hq hb
    subst hb
    obtain ⟨g₂, t, vs, n, F2, Rz, U, hn, kp⟩ := Fl
    refine caught_SO0 (KF := K) Rz F2 B' U XB TB KD KtsTurn.refl F.X.name F.X.kts (fun h' g' news₂ T' F' N₂ Got' N' Bg X' P' D' => ?_) rfl rfl rfl pe
    refine wpAny_execs_cons (wpAny_Return_some (wpAny_Constant_bool ?_))
    exact hq g' _ T' ⟨sit_of F' N' hn S.sit.low S1.sit.big, kp⟩
  have ep : ∀ w' : Int, 0 ≤ w' → w' < 4 → putRes G a b w' (some r) = none := fun w' h0 h4 => by
    have n1 : halfRes G a b (some r) none = none := by unfold halfRes; split <;> simp [hr]
    have n2 : halfRes G a b none (some r) = none := by unfold halfRes; split <;> simp [hr]
    unfold putRes
    have : w' = 0 ∨ w' = 1 ∨ w' = 2 ∨ w' = 3 := by omega
    rcases this with rfl | rfl | rfl | rfl <;> simp [n1, n2]
  have fr' := Around.frames_deeper hA (env := envOf "_law_is_refused" (sScope (topS 20)) L' 929 cdv)
  refine wpAny_execs_cons (wpAny_If (wpAny_isTrue_BoolOp (wpAny_allTrue_Or_cons (wpAny_isTrue_Compare1 (nameX_L S1.fr (by rfl) (cInt S1 fun _ s2 S2 => lt_int (wpAny_truthy_bool ?_))) (by rfl)))))
  have putC : ∀ s2, At s0 g L' s2 (fun y => [(("drawing" : Str), Value.ref (ad .x)), ("way", .int way tw), ("a", .int a ta), ("b", .int b tb), ("row", .ref rl), ("strange", .int r tr)].reverse.lookup y) μ → ∀ s2', At s0 g L' s2' (fun y => [(("drawing" : Str), Value.ref (ad .x)), ("way", .int way tw), ("a", .int a ta), ("b", .int b tb), ("row", .ref rl), ("strange", .int r tr)].reverse.lookup y) μ → True := fun _ _ _ _ => trivial
  clear putC
  by_cases hw4 : way < 4
  · rw [if_pos (decide_eq_true hw4), if_pos rfl]
    refine wpAny_execs_cons (wpAny_Expr_any (callF S2 H' hput hputk (wpAny_items_cons (nameX_L S2.fr (by rfl) (wpAny_items_cons (wpAny_BinOp (nameX_L S2.fr (by rfl) (cInt S2 fun _ s3 S3 => modI S3 (by decide) fun _ s4 S4 => ?_))))))))
    refine wpAny_items_cons (nameX_L S4.fr (by rfl) (wpAny_items_cons (nameX_L S4.fr (by rfl) (wpAny_items_cons (nameX_L S4.fr (by rfl) (wpAny_items_nil ⟨H'.X.keeps S4.fr.keep, wpAny_call ?_⟩))))))
    refine put_spec (bv := some (r, tr)) (.inl ⟨PySem.W.fmod_lo _ (by decide), PySem.W.fmod_hi _ (by decide), by simp⟩) F H' B' fr' S4 D W ha5 hb5 hnew ring (by show A.depth + 1 + 4 < _; omega) ⟨fun G' hG => ?_, fun _ e s' Fl => ?_⟩
    · rw [show ((some (r, tr) : Option (Int × Tok)).map (·.1)) = some r from rfl, ep _ (PySem.W.fmod_lo _ (by decide)) (PySem.W.fmod_hi _ (by decide))] at hG; cases hG
    · exact catch_ _ _ e s' _ _ _ _ _ _ _ Fl (by passes_own) (fun g' s₂ T' S' => ⟨g', _, μ, T', S', fun k => post _ k⟩) rfl
  rw [if_neg (by simpa using hw4)]
  refine wpAny_allTrue_Or_cons (wpAny_isTrue_Compare1 (nameX_L S2.fr (by rfl) (listLit (wpAny_items_nil ⟨le_line (show 0 ≤ 100 by decide), _, _, S2, fun l0 o0 s2' hl0 S2' hlo0 => ?_⟩))) (by rfl))
  have hrl2 : put μ l0 o0 rl = some ol := (put_ne fun q => by rw [q, hl0] at hrl; cases hrl).trans hrl
  refine eqInts S2' hrl2 put_self hlo hlo0 hints .nil (by show A.units + 3 + 64 < cLine; omega) (wpAny_truthy_bool ?_)
  replace S2 := S2'.drop hl0
  clear S2'
  by_cases hemp : ri = []
  · rw [if_pos (decide_eq_true hemp), if_pos rfl]
    refine wpAny_execs_cons (wpAny_Expr_any (callF S2 H' hput hputk (wpAny_items_cons (nameX_L S2.fr (by rfl) (wpAny_items_cons (wpAny_BinOp (nameX_L S2.fr (by rfl) (cInt S2 fun _ s3 S3 => modI S3 (by decide) fun _ s4 S4 => ?_))))))))
    refine wpAny_items_cons (nameX_L S4.fr (by rfl) (wpAny_items_cons (nameX_L S4.fr (by rfl) (wpAny_items_cons (nameX_L S4.fr (by rfl) (wpAny_items_nil ⟨H'.X.keeps S4.fr.keep, wpAny_call ?_⟩))))))
    refine put_spec (bv := some (r, tr)) (.inl ⟨PySem.W.fmod_lo _ (by decide), PySem.W.fmod_hi _ (by decide), by simp⟩) F H' B' fr' S4 D W ha5 hb5 hnew ring (by show A.depth + 1 + 4 < _; omega) ⟨fun G' hG => ?_, fun _ e s' Fl => ?_⟩
    · rw [show ((some (r, tr) : Option (Int × Tok)).map (·.1)) = some r from rfl, ep _ (PySem.W.fmod_lo _ (by decide)) (PySem.W.fmod_hi _ (by decide))] at hG; cases hG
    · exact catch_ _ _ e s' _ _ _ _ _ _ _ Fl (by passes_own) (fun g' s₂ T' S' => ⟨g', _, μ, T', S', fun k => post _ k⟩) rfl
  rw [if_neg (by simpa using hemp)]
  refine wpAny_allTrue_Or_nil ?_
  rw [if_neg (by simp)]
  have hne : G.ord a ≠ [] := fun q => hemp (hri.mpr q)
  refine wpAny_execs_cons (wpAny_If (wpAny_isTrue_Compare1 (nameX_L S2.fr (by rfl) (cInt S2 fun _ s3 S3 => eq_int (wpAny_truthy_bool ?_))) (by rfl)))
  by_cases hw : way = 4
  · rw [if_pos (by simp [hw])]
    have hpos : 0 < ri.length := List.length_pos_iff.mpr hemp
    obtain ⟨t0, x0⟩ := hints.get 0 ri[0] (by simp)
    obtain ⟨t1, x1⟩ := hints.get (ri.length - 1) ri[ri.length - 1] (by simp)
    refine wpAny_execs_cons (wpAny_Expr_any (methKW S3 H' F.C D (by rfl) F.C.half (by decide) (wpAny_items_cons (nameX_L S3.fr (by rfl) (wpAny_items_cons (nameX_L S3.fr (by rfl) (wpAny_items_nil ?_)))))))
    refine kwAll_cons (Subscript_ (nameX_L S3.fr (by rfl) (cInt S3 fun _ s4 S4 => subL (.int ri[0] t0) (hlo.isList (S4.get hrl)) (by decide) (by decide) (by simpa using x0) ?_)))
    refine kwAll_cons (Subscript_ (nameX_L S4.fr (by rfl) (wpAny_UnaryOp (cInt S4 fun _ s5 S5 => negI S5 fun _ s6 S6 => ?_))))
    refine subNeg (.int ri[ri.length - 1] t1) (hlo.isList (S6.get hrl)) (by decide) (by rw [List.size_toArray]; omega) (by decide) ?_ ?_
    · have : ((-1 : Int) + (items.toArray.size : Int)).toNat = ri.length - 1 := by rw [List.size_toArray]; omega
      rw [this, List.getElem?_toArray]; exact x1
    refine kwAll_nil ⟨H'.X.keeps S6.fr.keep, ?_⟩
    refine half_res (cv := some (ri[0], t0)) (dv := some (ri[ri.length - 1], t1)) F H' B' fr' S6 D W ha5 hb5 hnew ring (by show A.depth + 1 + 2 < _; omega) ⟨fun G' hG => ?_, fun _ e s' Fl => ?_⟩
    · simp [halfRes, hne] at hG
    · exact catch_ _ _ e s' _ _ _ _ _ _ _ Fl (by passes_own) (fun g' s₂ T' S' => ⟨g', _, μ, T', S', fun k => post _ k⟩) rfl
  rw [if_neg (by simp [hw])]
  refine wpAny_execs_cons (wpAny_Expr_any (methXA S3 H' F.C D (by rfl) F.C.half (by decide) (wpAny_items_cons (nameX_L S3.fr (by rfl) (wpAny_items_cons (nameX_L S3.fr (by rfl) (wpAny_items_nil ⟨H'.X.keeps S3.fr.keep, ?_⟩)))))))
  refine half_res (cv := none) (dv := none) F H' B' fr' S3 D W ha5 hb5 hnew ring (by show A.depth + 1 + 2 < _; omega) ⟨fun G' hG => ?_, fun _ e s' Fl => ?_⟩
  · simp [halfRes, hne] at hG
  · exact catch_ _ _ e s' _ _ _ _ _ _ _ Fl (by passes_own) (fun g' s₂ T' S' => ⟨g', _, μ, T', S', fun k => post _ k⟩) rfl
end
end Mine
end
section -- GenA
open PySem PySem.W PySem.Calls PyProof.Rows PyProof.V PySem.Spec
set_option maxRecDepth 100000
set_option linter.unusedVariables false
namespace Mine

structure Walk (G : PE) (v : Int) (row : List Int) : Prop where
  none_ : G.ord v = [] ↔ row = []
  first : ∀ h : G.ord v ≠ [], row[0]? = some ((G.ord v).getLast h)
  mem : ∀ c ∈ row, c ∈ G.ord v
  step : ∀ i c d, row[i]? = some c → row[i + 1]? = some d → G.cw v c = d
  last : ∀ i c d, row[i]? = some c → i + 1 = row.length → row[0]? = some d → G.cw v c = d
  nodup : row.Nodup

def Off (g : Heap) (C b : Addr) : Prop := b = C ∨ (b = sysModules ∧ g.get? b = none)
def Since (g : Heap) (C : Addr) (s₀ s : Shared) : Prop := s.gens = s₀.gens ∧ s.os = s₀.os ∧ s.drawn = s₀.drawn ∧ ∀ b o, ¬ Off g C b → s₀.heap.get? b = some o → s.heap.get? b = some o
def ancOf (s : Shared) : Anc := ⟨s.os, s.drawn, (· = s.gens)⟩
noncomputable def led (g : Heap) (C : Addr) (h : Heap) : Mu := fun b => by
  classical exact if b = C ∨ b = sysModules ∨ (g.get? b).isSome then none else h.get? b
theorem led_some {g h : Heap} {C b : Addr} {o : Obj} : led g C h b = some o ↔ b ≠ C ∧ b ≠ sysModules ∧ g.get? b = none ∧ h.get? b = some o := by
  unfold led
  split
  · rename_i q
    constructor
    · intro e; cases e
    · rintro ⟨a, b, c, _⟩
      rcases q with q | q | q
      · exact absurd q a
      · exact absurd q b
      · rw [c] at q; cases q
  · rename_i q
    have q1 : b ≠ C := fun z => q (.inl z)
    have q2 : b ≠ sysModules := fun z => q (.inr (.inl z))
    have q3 : g.get? b = none := by
      cases z : g.get? b with
      | none => rfl
      | some x => exact absurd (.inr (.inr (by rw [z]; rfl))) q
    exact ⟨fun e => ⟨q1, q2, q3, e⟩, fun e => e.2.2.2⟩

section
variable {w : World} {K : Frag} {p : Program} {loose : List Str} {mean : ExcName → Option Value} {mg mb : Str → Option Value}
variable {A A₁ : Around} {env' : Env} {g : Heap} {C N : Addr} {m : Str → Option Value} {μ : Mu} {s₀ s s' : Shared} {ad : Adr} {G : PE}

theorem at_led (hns : s.heap.Ns C m) (hk : ∀ b o, g.get? b = some o → s.heap.get? b = some o) (ab : g.objs.size ≤ C) (big : sysModules < C) : At (ancOf s) g C s m (led g C s.heap) :=
  ⟨⟨⟨hns, hk, ab⟩, fun a o e => let q := led_some.mp e; ⟨q.2.2.2, q.1, q.2.2.1⟩, fun a o e => beq_eq_false_iff_ne.mpr (led_some.mp e).2.1, big⟩, rfl, rfl, rfl⟩
theorem since_of (S : At (ancOf s₀) g C s m (led g C s₀.heap)) (S0 : ∀ b o, g.get? b = some o → s₀.heap.get? b = some o) : Since g C s₀ s := by
  refine ⟨S.kp.2.2, S.kp.1, S.kp.2.1, fun b o hb e => ?_⟩
  have hC : b ≠ C := fun z => hb (.inl z)
  cases z : g.get? b with
  | some x =>
    have h1 := S.fr.keep b x z
    have h2 := S0 b x z
    rw [e] at h2; cases h2
    exact h1
  | none =>
    have hs : b ≠ sysModules := fun y => hb (.inr ⟨y, z⟩)
    exact S.get (led_some.mpr ⟨hC, hs, z, e⟩)

theorem pyNext_genQ {a : Addr} {gn n : Nat} {gs : GenState} {P : Nat → Shared → Shared → Prop} {Y : Protocol} {Q : Option Value → Shared → Prop} {E : Value → Shared → Prop} (hh : A.handled = none)
    (hl : s.heap.NoLimit) (hroom : A.depth < recursionLimit) (hg : s.heap.IsGen a gn) (hgs : s.gens[gn]? = some gs)
    (hgo : gs.Goes (model P0 w) A.in1 (fun n s₀ r s₁ => r = .ok (.ret .none) ∧ P n s₀ s₁) Y n (.send .none) (s.setGen gn .running))
    (hY : ∀ v s₁ gs', gs'.bare = true → Y (n - 1) (s.setGen gn .running) v s₁ (fun r' s'' => match n with
        | 0 => False
        | m + 1 => gs'.Goes (model P0 w) A.in1 (fun n s₀ r s₁ => r = .ok (.ret .none) ∧ P n s₀ s₁) Y m r' s'') → Q (some v) (s₁.setGen gn gs'))
    (hP : ∀ s₁, P n (s.setGen gn .running) s₁ → ∀ h', (∀ b o, s₁.heap.get? b = some o → h'.get? b = some o) → Q none { s₁.setGen gn .finished with heap := h' }) :
    wpAny (model P0 w) A (pyNext (.ref a)) Q E s := by
  unfold pyNext
  refine wpAny_bind (wpAny_attempt (wpAny_callSpecial?_slot (name := Str.ofString "__next__") hg.typeIs slot_gen_next
    (wpAny_call_entry slot_gen_next hg.typeIs entry_gen_next ?_ (args_gen_next _))))
  show wpAny _ _ (Builtin.Generator.genWake (.ref a) (.send .none)) _ _ s
  unfold Builtin.Generator.genWake
  refine wpAny_bind (wpAny_holding (wpAny_genNumber hg (wpAny_bind (wpAny_genState hgs ?_))))
  cases gs with
  | running => exact hgo.elim
  | finished => exact hgo.elim
  | _ =>
    refine wpAny_bind (wpAny_roomToWake hl hroom ?_)
    show wpAny _ _ (.resume gn (.send .none) [] _) _ _ s
    refine wpAny_resumeQ hgs hgo (fun x s₁ hx => ?_) (fun v s₁ gs' hb hv => ?_)
    · obtain ⟨rfl, hp⟩ := hx
      show wpAny _ _ (newExc (.type "StopIteration") [] >>= _) _ _ _
      refine wpAny_bind ?_
      simp only [newExc, newTuple]
      refine wpAny_bind (wpAny_newObj_type ?_ (by size_fits))
      refine wpAny_bind (m := firstArgMember _ _) (wpAny_of_eq (a := Value.none) (by first | rfl | (simp only [firstArgMember]; rfl)) ?_)
      refine wpAny_newObj_type ?_ (by size_fits)
      simp only [raiseNew]
      refine wpAny_bind (wpAny_bind (wpAny_handled ?_))
      rw [show A.in1.handled = none from hh]
      refine wpAny_throw ?_
      refine wpAny_bind (wpAny_isInstance (T := "StopIteration") (b := true) ⟨_, Heap.get?_push_size _ rfl, rfl⟩ isSubtype_stop ?_)
      exact wpAny_pure (hP s₁ hp _ fun b o hb => Heap.get?_push_of_some _ (Heap.get?_push_of_some _ hb))
    · exact wpAny_pure ⟨v, rfl, wpAny_pure (hY v s₁ gs' hb hv)⟩
end

def genY (g : Heap) (C N : Addr) (row : List Int) : Protocol := fun m s₀ v s kap =>
  (∃ c t, row[row.length - 1 - m]? = some c ∧ v = .int c t) ∧ Since g C s₀ s ∧ ∀ s'' : Shared, (∀ b, b < N → ∀ o, s.heap.get? b = some o → s''.heap.get? b = some o) → kap (.send .none) s''
def genR (g : Heap) (C : Addr) : GenEnd := fun n s₀ r s₁ => r = .ok (.ret .none) ∧ (n = 0 ∧ Since g C s₀ s₁)

def orderBody : List Stmt := sBody (inS 16 5)
abbrev orderEnv (C : Addr) (cdv : Value) : Env := envOf "PlanarEmbedding.neighbors_cw_order" (sScope (inS 16 5)) C 816 cdv

section
variable {w : World} {K : Frag} {p : Program} {loose : List Str} {mean : ExcName → Option Value} {mg mb : Str → Option Value}
variable {A A₁ : Around} {g : Heap} {C N : Addr} {m : Str → Option Value} {μ : Mu} {s₀ s s' : Shared} {ad : Adr} {G : PE} {v : Int} {row : List Int} {cdv : Value}

structure GenBase (w : World) (K : Frag) (p : Program) (loose : List Str) (mean : ExcName → Option Value) (mg mb : Str → Option Value) (A₁ : Around) (g : Heap) (C N : Addr) (μ : Mu) (ad : Adr) (G : PE) (cdv : Value) : Prop where
  H : Here K p loose mean mg mb A₁ (orderEnv C cdv) g C
  FC : FCls K
  D : Dr w μ ad G
  ab : g.objs.size ≤ C
  CN : C < N
  big : sysModules < C
  mu : ∀ a o, μ a = some o → a < C ∧ a ≠ sysModules ∧ g.get? a = none
  list : nsIn K mainGlobals "list" = some none

theorem GenBase.dr (B : GenBase w K p loose mean mg mb A₁ g C N μ ad G cdv) {h : Heap} (hm : ∀ a o, μ a = some o → h.get? a = some o) : Dr w (led g C h) ad G :=
  B.D.mono fun r l o e => led_some.mpr ⟨Nat.ne_of_lt (B.mu _ _ e).1, (B.mu _ _ e).2.1, (B.mu _ _ e).2.2, hm _ _ e⟩

theorem GenBase.woken (B : GenBase w K p loose mean mg mb A₁ g C N μ ad G cdv) {s'' : Shared} (S : At (ancOf s₀) g C s m (led g C s₀.heap)) (hm : ∀ a o, μ a = some o → s₀.heap.get? a = some o)
    (hk : ∀ b, b < N → ∀ o, s.heap.get? b = some o → s''.heap.get? b = some o) : At (ancOf s'') g C s'' m (led g C s''.heap) ∧ (∀ a o, μ a = some o → s''.heap.get? a = some o) ∧ (∀ b o, g.get? b = some o → s''.heap.get? b = some o) := by
  have h1 : ∀ b o, g.get? b = some o → s''.heap.get? b = some o := fun b o e => hk b (Nat.lt_of_lt_of_le (Heap.lt_size e) (Nat.le_trans B.ab (Nat.le_of_lt B.CN))) o (S.fr.keep b o e)
  refine ⟨at_led (S.fr.ns.at' fun o e => hk C B.CN o e) h1 B.ab B.big, fun a o e => hk a (Nat.lt_trans (B.mu a o e).1 B.CN) o (S.get (led_some.mpr ⟨Nat.ne_of_lt (B.mu _ _ e).1, (B.mu _ _ e).2.1, (B.mu _ _ e).2.2, hm _ _ e⟩)), h1⟩
end
end Mine
end
section -- GenB
open PySem PySem.W PySem.Calls PyProof.Rows PyProof.V PySem.Spec
set_option maxRecDepth 100000
set_option linter.unusedVariables false
namespace Mine
theorem nodup_head {row : List Int} (h : row.Nodup) {i : Nat} (hi : 1 ≤ i) {a b : Int} (h0 : row[0]? = some a) (h1 : row[i]? = some b) : a ≠ b := by
  cases row with
  | nil => simp at h0
  | cons x l =>
    obtain ⟨j, rfl⟩ : ∃ j, i = j + 1 := ⟨i - 1, by omega⟩
    simp at h0 h1
    subst h0
    rw [List.nodup_cons] at h
    rintro rfl
    exact h.1 (List.mem_of_getElem? h1)
def wTest : PySem.Expr := match nth orderBody 5 with | .While t _ _ _ => t | _ => .Constant .none 0 default
def wBody : List Stmt := match nth orderBody 5 with | .While _ b _ _ => b | _ => []
section
variable {w : World} {K : Frag} {p : Program} {loose : List Str} {mean : ExcName → Option Value} {mg mb : Str → Option Value}
variable {A A₁ : Around} {g : Heap} {C N : Addr} {m : Str → Option Value} {μ : Mu} {s₀ s s' : Shared} {ad : Adr} {G : PE} {v : Int} {row : List Int} {cdv : Value}

theorem seg_loop (B : GenBase w K p loose mean mg mb A₁ g C N μ ad G cdv) (W : Walk G v row) {fs : List Frame} (hfs : splitAtGen fs = none) (hfg : fs.any Frame.guarded = false) (hh : ∀ c, (A.over c fs).handled = none)
    (hend : ∀ s₀ s, Since g C s₀ s → Seg (model P0 w) A (genR g C) (genY g C N row) 0 s₀ (.whileLoop wTest wBody [] (orderEnv C cdv)) (leafOf (.ok .next)) fs s) :
    ∀ (k i : Nat) (s₀ s : Shared) (m : Str → Option Value) (st cu : Int) (ts tc : Tok), row.length - i = k → 1 ≤ i → i ≤ row.length →
      At (ancOf s₀) g C s m (led g C s₀.heap) → (∀ a o, μ a = some o → s₀.heap.get? a = some o) → (∀ b o, g.get? b = some o → s₀.heap.get? b = some o) →
      m "succs" = some (.ref (ad (.S v))) → m "start_node" = some (.int st ts) → m "current_node" = some (.int cu tc) → row[0]? = some st → (i < row.length → row[i]? = some cu) → (i = row.length → cu = st) →
      Seg (model P0 w) A (genR g C) (genY g C N row) k s₀ (.whileLoop wTest wBody [] (orderEnv C cdv)) ((model P0 w).den (.whileLoop wTest wBody [] (orderEnv C cdv))) fs s := by
  intro k
  induction k with
  | zero =>
    intro i s₀ s m st cu ts tc hk h1 hi S hm hg0 ms mst mcu h0 hlt heq
    have hin : i = row.length := by omega
    refine seg_whileLoop (wpAny_isTrue_Compare1 (nameX_L S.fr mst (nameX_L S.fr mcu (ne_int (wpAny_truthy_bool ?_)))) (by rfl))
    rw [if_neg (by rw [heq hin]; simp)]
    exact seg_execs_nil (hend s₀ s (since_of S hg0))
  | succ k ih =>
    intro i s₀ s m st cu ts tc hk h1 hi S hm hg0 ms mst mcu h0 hlt heq
    have hil : i < row.length := by omega
    have hcu := hlt hil
    have hne : st ≠ cu := nodup_head W.nodup h1 h0 hcu
    have hmem : cu ∈ G.ord v := W.mem cu (List.mem_of_getElem? hcu)
    refine seg_whileLoop (wpAny_isTrue_Compare1 (nameX_L S.fr mst (nameX_L S.fr mcu (ne_int (wpAny_truthy_bool ?_)))) (by rfl))
    rw [if_pos (by simpa using hne)]
    refine seg_execs_cons (seg_Expr_Yield hfs rfl hfg (nameX_L S.fr mcu fun kap hkap => ?_))
    refine ⟨⟨cu, tc, ?_, rfl⟩, since_of S hg0, fun s'' hal => hkap .none s'' ?_⟩
    · rw [show row.length - 1 - k = i by omega]; exact hcu
    obtain ⟨S', hm', hg'⟩ := B.woken S hm hal
    have D' := B.dr hm'
    refine seg_execs_cons (seg_wrap (wpAny_Assign_Name (Subscript_ (Subscript_ (nameX_L S'.fr ms (nameX_L S'.fr mcu (succsItem S' D' hmem fun s3 S3 => cStr S3 fun _ s4 S4 => readCw S4 D' hmem fun t s5 S5 => ?_)))))))
    refine stL S5 fun s6 S6 => seg_execs_nil (seg_again rfl (ih (i + 1) s'' s6 _ st (G.cw v cu) ts t (by omega) (by omega) (by omega) S6 hm' hg' ms mst (by rfl) h0 (fun hlt' => ?_) (fun he => ?_)))
    · obtain ⟨d, hd⟩ : ∃ d, row[i + 1]? = some d := ⟨_, List.getElem?_eq_getElem hlt'⟩
      rw [hd, W.step i cu d hcu hd]
    · exact W.last i cu st hcu he h0

theorem seg_order (B : GenBase w K p loose mean mg mb A₁ g C N μ ad G cdv) (W : Walk G v row) (hv : v ∈ G.ks) (hh : A.handled = none) {tv : Tok}
    (S : At (ancOf s₀) g C s m (led g C s₀.heap)) (hm : ∀ a o, μ a = some o → s₀.heap.get? a = some o) (hg0 : ∀ b o, g.get? b = some o → s₀.heap.get? b = some o)
    (ms : m "self" = some (.ref (ad .x))) (mv : m "v" = some (.int v tv)) :
    Seg (model P0 w) A (genR g C) (genY g C N row) row.length s₀ (.func orderBody (orderEnv C cdv)) ((model P0 w).den (.func orderBody (orderEnv C cdv))) [] s := by
  have D := B.dr hm
  have hhA : ∀ c, (A.over c []).handled = none := fun _ => hh
  refine seg_func (seg_execs_cons (seg_wrap (wpAny_Assign_Name (Subscript_ (attrX S B.H B.FC D ms B.FC.succ (v := .ref (ad .sd)) (fun es n h => ddo_succ h) rfl fun s1 S1 => nameX_L S1.fr mv ?_)))))
  obtain ⟨osd, esd, csd⟩ := D.at_ .sd trivial
  refine dItem S1 esd csd (intKind_is ..) (by rw [valueAt_map, if_pos hv]) fun s2 S2 => stL S2 fun s3 S3 => ?_
  obtain ⟨oS, eS, cS⟩ := D.at_ (.S v) hv
  have l1 : ((G.ord v).map fun k => (k, Value.ref (ad (.D v k)))).length ≤ sizeLine := le_line (by have := D.len5 v; simp; omega)
  refine seg_execs_cons (seg_wrap (wpAny_If (wpAny_isTrue_Not (wpAny_isTrue_value (nameX_L S3.fr (by rfl) (dTruth S3 eS cS l1 fun s4 S4 => ?_))))))
  by_cases hemp : G.ord v = []
  · rw [if_pos (by simp [hemp])]
    have hr := W.none_.mp hemp
    refine wpAny_execs_cons (wpAny_Return_none ?_)
    rw [hr]
    exact seg_end (.ok (.ret .none)) ⟨rfl, rfl, since_of S4 hg0⟩
  rw [if_neg (by simp [hemp])]
  refine wpAny_execs_nil ?_
  refine seg_execs_cons (seg_wrap (wpAny_Assign_Name (Subscript_ (callT "list" S4 B.H B.list (by decide +kernel) (by decide) (wpAny_items_cons (nameX_L S4.fr (by rfl) (wpAny_items_nil ?_)))))))
  refine dList S4 hh eS cS l1 fun l ol vl s5 hl0 S5 hlo hlen hvl => ?_
  refine wpAny_UnaryOp (cInt S5 fun _ s6 S6 => negI S6 fun _ s7 S7 => lastKey S7 hlo hlen hvl hemp (D.len5 v) fun tl => ?_)
  refine stL (S7.drop hl0) fun s8 S8 => ?_
  have h0 := W.first hemp
  have hrow : row ≠ [] := fun q => hemp (W.none_.mpr q)
  obtain ⟨n, hn⟩ : ∃ n, row.length = n + 1 := ⟨row.length - 1, by have := List.length_pos_iff.mpr hrow; omega⟩
  generalize (G.ord v).getLast hemp = st at *
  have hst : st ∈ G.ord v := W.mem st (List.mem_of_getElem? h0)
  rw [hn]
  refine seg_execs_cons (seg_Expr_Yield rfl rfl rfl (nameX_L S8.fr (by rfl) fun kap hkap => ?_))
  refine ⟨⟨st, tl, ?_, rfl⟩, since_of S8 hg0, fun s'' hal => hkap .none s'' ?_⟩
  · rw [show row.length - 1 - n = 0 by omega]; exact h0
  obtain ⟨S', hm', hg'⟩ := B.woken S8 hm hal
  have D' := B.dr hm'
  refine seg_execs_cons (seg_wrap (wpAny_Assign_Name (Subscript_ (Subscript_ (nameX_L S'.fr (by rfl) (nameX_L S'.fr (by rfl) (succsItem S' D' hst fun s3 S3 => cStr S3 fun _ s4 S4 => readCw S4 D' hst fun t s5 S5 => ?_)))))))
  refine stL S5 fun s6 S6 => ?_
  refine seg_execs_cons (seg_While fun p => ?_)
  refine seg_loop B W (by rfl) (by rfl) (by exact fun _ => hh) (fun s₀' s hs => ?_) n 1 s'' s6 _ st (G.cw v st) tl t (by omega) (by omega) (by omega) S6 hm' hg' (by rfl) (by rfl) (by rfl) h0 (fun hlt => ?_) (fun he => ?_)
  · refine seg_leaf (.ok .next) ?_
    exact seg_end (.ok (.ret .none)) ⟨rfl, rfl, hs⟩
  · obtain ⟨d, hd⟩ : ∃ d, row[1]? = some d := ⟨_, List.getElem?_eq_getElem hlt⟩
    rw [hd, W.step 0 st d h0 hd]
  · exact W.last 0 st st h0 (by omega) h0
end
end Mine
end
section -- GenC
open PySem PySem.W PySem.Calls PyProof.Rows PyProof.V PySem.Spec
set_option maxRecDepth 100000
set_option linter.unusedVariables false
namespace Mine
def wrOf (g : Heap) (C : Addr) : List Addr := if (g.get? sysModules).isSome then [C] else [C, sysModules]
theorem mem_wrOf {g : Heap} {C b : Addr} : b ∈ wrOf g C ↔ Off g C b := by
  unfold wrOf Off
  cases h : g.get? sysModules with
  | some o =>
    simp only [Option.isSome_some, if_true, List.mem_singleton]
    constructor
    · exact .inl
    · rintro (q | ⟨q, z⟩)
      · exact q
      · subst q; rw [h] at z; cases z
  | none =>
    simp only [Option.isSome_none, Bool.false_eq_true, if_false, List.mem_cons, List.not_mem_nil, or_false]
    constructor
    · rintro (q | q)
      · exact .inl q
      · subst q; exact .inr ⟨rfl, h⟩
    · rintro (q | ⟨q, z⟩)
      · exact .inl q
      · exact .inr q

def GenSt (w : World) (A : Around) (a : Addr) (gn : Nat) (g : Heap) (C N : Addr) (row : List Int) (i : Nat) (s : Shared) : Prop :=
  s.heap.IsGen a gn ∧ s.heap.NoLimit ∧ ∃ gs, s.gens[gn]? = some gs ∧ ∀ s'' : Shared, (∀ b, b < N → ∀ o, s.heap.get? b = some o → s''.heap.get? b = some o) →
    gs.Goes (model P0 w) A.in1 (genR g C) (genY g C N row) (row.length - i) (.send .none) s''

section
variable {w : World} {K : Frag} {p : Program} {loose : List Str} {mean : ExcName → Option Value} {mg mb : Str → Option Value}
variable {A A₁ : Around} {g : Heap} {C N a : Addr} {gn : Nat} {m : Str → Option Value} {μ : Mu} {s₀ s s' : Shared} {ad : Adr} {G : PE} {v : Int} {row : List Int} {cdv : Value}

theorem walks_order (hh : A.handled = none) (hroom : A.depth < recursionLimit) (ha : a < N) (haC : ¬ Off g C a) (hC : C < N) (big : sysModules < C) (hcs : cStatics < N) (hcC : ¬ Off g C cStatics) :
    WalksS P0 w A a (List.range N) (wrOf g C) (GenOnlyQ gn) row.length (fun i v => ∃ c t, row[i]? = some c ∧ v = .int c t) (GenSt w A a gn g C N row) where
  sub := fun b hb => List.mem_range.mpr (by
    rcases mem_wrOf.mp hb with q | q
    · rw [q]; exact hC
    · rw [q.1]; exact Nat.lt_trans big hC)
  grefl := fun _ => .inl rfl
  gtrans := fun _ _ _ x y => x.trans y
  frame := fun i s h' tk st _ hk => by
    have hk' : ∀ b, b < N → ∀ o, s.heap.get? b = some o → h'.get? b = some o := fun b hb o e => hk b (List.mem_range.mpr hb) o e
    refine ⟨let ⟨o, nm, qn, ho, r⟩ := st.1; ⟨o, nm, qn, hk' a ha o ho, r⟩, let ⟨mc, hns, hnn⟩ := st.2.1; ⟨mc, hns.at' fun o e => hk' cStatics hcs o e, hnn⟩, ?_⟩
    obtain ⟨gs, hgs, hgo⟩ := st.2.2
    exact ⟨gs, hgs, fun s'' hal => hgo s'' fun b hb o e => hal b hb o (hk' b hb o e)⟩
  item := fun i s Q E hi st hQ => by
    obtain ⟨hg, hl, gs, hgs, hgo⟩ := st
    obtain ⟨k, hk⟩ : ∃ k, row.length - i = k + 1 := ⟨row.length - i - 1, by omega⟩
    rw [hk] at hgo
    refine wpAny_with_toks (Nat.le_refl s.toks) ?_
    refine pyNext_genQ (P := fun n s₀ s₁ => n = 0 ∧ Since g C s₀ s₁) hh hl hroom hg hgs (hgo _ fun _ _ _ e => e) (fun v s₁ gs' hb hv => ?_) (fun s₁ hp h' hk' => ?_)
    · obtain ⟨⟨c, t, hc, rfl⟩, ⟨e1, e2, e3, e4⟩, hkap⟩ := hv
      rw [show row.length - 1 - (k + 1 - 1) = i by omega] at hc
      intro htk
      have hga : s₁.gens[gn]? = some .running := by rw [e1]; exact setGen_self hgs
      refine hQ _ _ ⟨c, t, hc, rfl⟩ ⟨let ⟨o, nm, qn, ho, r⟩ := hg; ⟨o, nm, qn, e4 a o haC ho, r⟩, let ⟨mc, hns, hnn⟩ := hl; ⟨mc, hns.at' fun o e => e4 cStatics o hcC e, hnn⟩, gs', setGen_self hga, fun s'' hal => ?_⟩
        ⟨fun b o hb' e => e4 b o (fun z => hb' (mem_wrOf.mpr z)) e, GenOnlyQ.of ((e1 ▸ GenOnly.setGen s gn .running : GenOnly gn s.gens s₁.gens).trans (GenOnly.setGen s₁ gn gs')) (setGen_self hga) hb, e3, e2, htk⟩
      rw [show row.length - (i + 1) = k by omega]
      exact hkap s'' hal
    · exact absurd hp.1 (Nat.succ_ne_zero k)
  done := fun s Q E st hQ => by
    obtain ⟨hg, hl, gs, hgs, hgo⟩ := st
    rw [Nat.sub_self] at hgo
    refine wpAny_with_toks (Nat.le_refl s.toks) ?_
    refine pyNext_genQ (P := fun n s₀ s₁ => n = 0 ∧ Since g C s₀ s₁) hh hl hroom hg hgs (hgo _ fun _ _ _ e => e) (fun v s₁ gs' hb hv => ?_) (fun s₁ hp h' hk' => ?_)
    · obtain ⟨_, _, hkap⟩ := hv
      exact False.elim (hkap s₁ fun _ _ _ e => e)
    · obtain ⟨_, e1, e2, e3, e4⟩ := hp
      intro htk
      have hga : s₁.gens[gn]? = some .running := by rw [e1]; exact setGen_self hgs
      exact hQ _ ⟨fun b o hb' e => hk' b o (e4 b o (fun z => hb' (mem_wrOf.mpr z)) e), GenOnlyQ.of ((e1 ▸ GenOnly.setGen s gn .running : GenOnly gn s.gens s₁.gens).trans (GenOnly.setGen s₁ gn .finished)) (setGen_self hga) rfl, e3, e2, htk⟩
  self := fun _ _ _ _ st hQ => wpAny_pyIter_gen st.1 hQ
end
end Mine
end
section -- GenD
open PySem PySem.W PySem.Calls PyProof.Rows PyProof.V PySem.Spec
set_option maxRecDepth 100000
set_option linter.unusedVariables false
namespace Mine
def AllBare (gens : Array GenState) : Prop := ∀ x ∈ gens, x.bare = true
structure FOrd (K : Frag) : Prop where
  order : FnIn K 816 "neighbors_cw_order" "PlanarEmbedding.neighbors_cw_order" (inS 16 5) [] .none .none
  mOrder : MethIn K "neighbors_cw_order" 816
  list : nsIn K mainGlobals "list" = some none

theorem ints_of {vs : List Value} {ns : List Int} (hl : vs.length = ns.length) (h : ∀ (i : Nat) (v : Value), vs[i]? = some v → ∃ c t, ns[i]? = some c ∧ v = Value.int c t) : IntsAre vs ns := by
  induction vs generalizing ns with
  | nil => cases ns with
    | nil => exact .nil
    | cons _ _ => simp at hl
  | cons x l ih => cases ns with
    | nil => simp at hl
    | cons n ns =>
      obtain ⟨c, t, e, rfl⟩ := h 0 x rfl
      simp at e; subst e
      exact .cons _ t (ih (by simpa using hl) fun i v e => h (i + 1) v (by simpa using e))

section
variable {w : World} {K : Frag} {p : Program} {loose : List Str} {mean : ExcName → Option Value} {mg mb : Str → Option Value}
variable {A : Around} {h₀ : Heap} {L : Addr} {m : Str → Option Value} {μ : Mu} {s0 : Anc} {s : Shared} {E : Value → Shared → Prop} {ad : Adr} {G : PE} {v : Int} {tv : Tok} {row : List Int}
  {a : Addr} {cn : Str} {cs : Scope} {ccd : Value} {cl : List (Str × Addr)}

theorem list_ready {A₂ : Around} {env : Env} {base g : Heap} {outer : List Env} {s' : Shared} {ag : Addr} {BK : Value} {Q : Value → Shared → Prop} (FC : FCls K) (H : Here K p loose mean mg mb A env h₀ L) (B' : Below A₂ base outer g) (st : h₀.StaysIn g) (gsz : g.objs.size = s.heap.objs.size)
    (gs_ : ∀ b o, g.get? b = some o → s.heap.get? b = some o) (gmu : ∀ b o, μ b = some o → g.get? b = none)
    (S : At s0 h₀ L s m μ) (hJ : s0.J = AllBare) (D : Dr w μ ad G) (W : Walk G v row) (hv : v ∈ G.ks) (hroom : A.depth + 1 < recursionLimit) (hlist : nsIn K mainGlobals "list" = some none)
    (e1 : s'.os = s.os) (e2 : s'.drawn = s.drawn) (e3 : s'.gens = s.gens.push (.fresh (.func orderBody (orderEnv s.heap.objs.size BK)))) (hk : ∀ b o, s.heap.get? b = some o → s'.heap.get? b = some o)
    (hns : s'.heap.Ns s.heap.objs.size (fun y => [(("self" : Str), Value.ref (ad .x)), ("v", .int v tv)].reverse.lookup y)) (hgen : s'.heap.IsGen ag s.gens.size) (hag : ag = s.heap.objs.size + 1) (hN : s'.heap.objs.size = s.heap.objs.size + 2) (nl : s'.heap.NoLimit)
    (h : ∀ l ol vs s', μ l = none → At s0 h₀ L s' m (put μ l ol) → LO vs ol → IntsAre vs row → Q (.ref l) s') :
    wpAny (model P0 w) A (call (.type "list") [.ref ag]) Q E s' := by
  have NL := H.T.nolimit.keeps S.fr.keep
  have big : sysModules < s.heap.objs.size := Nat.lt_trans S.sit.big S.sit.L_lt
  have bigC : cStatics < s.heap.objs.size := by obtain ⟨_, hn, _⟩ := NL; exact hn.lt
  generalize hCe : s.heap.objs.size = C at *
  have GB : GenBase w K p loose mean mg mb ((⟨none, A.depth, some outer, none, 0⟩ : Around).deeper (orderEnv C BK)) g C (C + 2) μ ad G BK := by
    refine ⟨⟨H.X.keeps st, H.T.keeps st, ⟨(⟨none, A.depth, some outer, none, 0⟩ : Around), base, outer, ⟨rfl, B'.stays, B'.frames⟩, rfl⟩, rfl, rfl, rfl⟩, FC, D, by (first | omega | (dsimp only [Addr] at *; omega) | (unfold Addr at *; omega)), by (first | omega | (dsimp only [Addr] at *; omega) | (unfold Addr at *; omega)), big, fun a o e => ⟨?_, ?_, gmu a o e⟩, hlist⟩
    · rw [← hCe]; exact S.sit.lt e
    · exact beq_eq_false_iff_ne.mp (S.sit.low a o e)
  have gen0 : s'.gens[s.gens.size]? = some (.fresh (.func orderBody (orderEnv C BK))) := by rw [e3]; simp
  have hm' : ∀ a o, μ a = some o → s'.heap.get? a = some o := fun a o e => hk a o (S.get e)
  have hg' : ∀ b o, g.get? b = some o → s'.heap.get? b = some o := fun b o e => hk b o (gs_ b o e)
  have st0 : GenSt w A.in1.in1 ag s.gens.size g C (C + 2) row 0 s' := by
    refine ⟨hgen, nl, _, gen0, fun s'' hal => ⟨rfl, ?_⟩⟩
    have hg'' : ∀ b o, g.get? b = some o → s''.heap.get? b = some o := fun b o e => hal b (by have := Heap.lt_size (hg' b o e); (first | omega | (dsimp only [Addr] at *; omega) | (unfold Addr at *; omega))) o (hg' b o e)
    refine seg_order GB W hv H.hand (at_led (hns.at' fun o e => hal C (by (first | omega | (dsimp only [Addr] at *; omega) | (unfold Addr at *; omega))) o e) hg'' (by (first | omega | (dsimp only [Addr] at *; omega) | (unfold Addr at *; omega))) big) (fun a o e => hal a (by have := Heap.lt_size (hm' a o e); (first | omega | (dsimp only [Addr] at *; omega) | (unfold Addr at *; omega))) o (hm' a o e)) hg'' (by rfl) (by rfl)
  have hcs : ¬ Off g C cStatics := fun q => by
    rcases q with q | ⟨q, _⟩
    · (first | omega | (dsimp only [Addr] at *; omega) | (unfold Addr at *; omega))
    · exact absurd q (by decide)
  have hao : ¬ Off g C ag := fun q => by
    rcases q with q | ⟨q, _⟩
    · (first | omega | (dsimp only [Addr] at *; omega) | (unfold Addr at *; omega))
    · (first | omega | (dsimp only [Addr] at *; omega) | (unfold Addr at *; omega))
  refine call_list_gen (walks_order (A := A.in1.in1) (g := g) (C := C) (N := C + 2) (gn := s.gens.size) (row := row) H.hand (by show A.depth < _; (first | omega | (dsimp only [Addr] at *; omega) | (unfold Addr at *; omega))) (by (first | omega | (dsimp only [Addr] at *; omega) | (unfold Addr at *; omega))) hao (by (first | omega | (dsimp only [Addr] at *; omega) | (unfold Addr at *; omega))) big (by (first | omega | (dsimp only [Addr] at *; omega) | (unfold Addr at *; omega))) hcs) (fun i s st => st.1.typeIs) st0 (fun b hb => by have := List.mem_range.mp hb; (first | omega | (dsimp only [Addr] at *; omega) | (unfold Addr at *; omega))) (List.mem_range.mpr (by (first | omega | (dsimp only [Addr] at *; omega) | (unfold Addr at *; omega)))) (fun s'' acc c hM hS hI => ?_) ?_
  · have keep : ∀ b o, b < C → (b = sysModules → (g.get? b).isSome) → s.heap.get? b = some o → s''.heap.get? b = some o := fun b o hb hz e => by
      refine hM.heap b o (fun q => ?_) (Heap.get?_push_of_some _ (hk b o e))
      rcases List.mem_cons.mp q with q | q
      · (first | omega | (dsimp only [Addr] at *; omega) | (unfold Addr at *; omega))
      · rcases mem_wrOf.mp q with q | ⟨q, z⟩
        · (first | omega | (dsimp only [Addr] at *; omega) | (unfold Addr at *; omega))
        · have := hz q; rw [z] at this; cases this
    refine h s'.heap.objs.size { cls := .type "list", dict := none, data := .seq acc c, slots := #[] } acc.toList s'' ?_ ⟨⟨⟨S.fr.ns.at' fun o e => keep L o (by rw [← hCe]; exact S.sit.L_lt) (fun q => absurd q (Nat.ne_of_gt S.sit.big)) e, fun b o e => keep b o (by rw [← hCe]; exact Heap.lt_size (S.fr.keep b o e)) (fun _ => by rw [st b o e]; rfl) (S.fr.keep b o e), S.fr.above⟩, fun b o e => ?_, fun b o e => ?_, S.sit.big⟩, ?_⟩ ⟨rfl, c, by show Data.seq acc c = _; simp⟩ ?_
    · cases q : μ s'.heap.objs.size with
      | none => rfl
      | some o => have := S.sit.lt q; (first | omega | (dsimp only [Addr] at *; omega) | (unfold Addr at *; omega))
    · by_cases q : b = s'.heap.objs.size
      · subst q
        rw [put_self] at e; cases e
        refine ⟨hS, by have := S.sit.L_lt; (first | omega | (dsimp only [Addr] at *; omega) | (unfold Addr at *; omega)), ?_⟩
        cases z : h₀.get? s'.heap.objs.size with
        | none => rfl
        | some x => have := Heap.lt_size (S.fr.keep _ x z); (first | omega | (dsimp only [Addr] at *; omega) | (unfold Addr at *; omega))
      · rw [put_ne q] at e
        exact ⟨keep b o (by rw [← hCe]; exact S.sit.lt e) (fun z => absurd z (beq_eq_false_iff_ne.mp (S.sit.low b o e))) (S.get e), (S.sit.led b o e).2⟩
    · by_cases q : b = s'.heap.objs.size
      · subst q; exact beq_eq_false_iff_ne.mpr (by (first | omega | (dsimp only [Addr] at *; omega) | (unfold Addr at *; omega)))
      · rw [put_ne q] at e; exact S.sit.low b o e
    · refine ⟨hM.os.trans (e1.trans S.kp.1), hM.drawn.trans (e2.trans S.kp.2.1), ?_⟩
      rw [hJ]
      have hb := S.kp.2.2
      rw [hJ] at hb
      refine GenOnlyQ.bare hM.gens fun y hy => ?_
      have hy : y ∈ s'.gens := hy
      rw [e3, Array.mem_push] at hy
      rcases hy with hy | rfl
      · exact hb y hy
      · rfl
    · exact ints_of (by rw [Array.length_toList]; exact hI.1) fun i v e => hI.2 i v (by rw [← Array.getElem?_toList]; exact e)
  · exact le_line (by
      have h1 : row.length ≤ 5 := le5 W.nodup fun k hk => D.ok.ord v k (W.mem k hk)
      (first | omega | (dsimp only [Addr] at *; omega) | (unfold Addr at *; omega)))

theorem listOrder {np pos apos pos2 np2 vp : Pos} {x : Str} {Q : Value → Shared → Prop} (FO : FOrd K) (FC : FCls K) (H : Here K p loose mean mg mb A (envX cn cs L a ccd cl) h₀ L) (S : At s0 h₀ L s m μ) (hJ : s0.J = AllBare) (D : Dr w μ ad G) (W : Walk G v row) (hv : v ∈ G.ks)
    (hs : m "self" = some (.ref (ad .x))) (hm : m x = some (.int v tv)) (hroom : A.depth + 1 < recursionLimit)
    (h : ∀ l ol vs s', μ l = none → At s0 h₀ L s' m (put μ l ol) → LO vs ol → IntsAre vs row → Q (.ref l) s')
    (hk : cs.kind = .function := by rfl) (hl : (envX cn cs L a ccd cl).kindOf "list" = some .globalImplicit := by rfl) (hx : (envX cn cs L a ccd cl).kindOf "self" = some .local := by rfl) (hx2 : (envX cn cs L a ccd cl).kindOf x = some .local := by rfl) (hd : (x == ("__debug__" : Str)) = false := by decide)
    (he' : starEach [.Call (.Attribute (.Name "self" np2) "neighbors_cw_order" apos) [.Name x vp] [] pos2] (envX cn cs L a ccd cl) = (false, eval (.Call (.Attribute (.Name "self" np2) "neighbors_cw_order" apos) [.Name x vp] [] pos2) (envX cn cs L a ccd cl)) :: starEach [] (envX cn cs L a ccd cl) := by rfl)
    (he2 : starEach [.Name x vp] (envX cn cs L a ccd cl) = (false, eval (.Name x vp) (envX cn cs L a ccd cl)) :: starEach [] (envX cn cs L a ccd cl) := by rfl)
    {pl : Sem Bool}
    (he : eval (.Call (.Attribute (.Name "self" np2) "neighbors_cw_order" apos) [.Name x vp] [] pos2) (envX cn cs L a ccd cl) = (do
      let ov ← eval (.Name "self" np2) (envX cn cs L a ccd cl)
      standAt apos.atName
      let (f, first) ← holding [ov] (getMethod ov "neighbors_cw_order" pl)
      callWith pos2 f first (backTo pos2 (starEach [.Name x vp] (envX cn cs L a ccd cl))) []) := by rfl) :
    wpAny (model P0 w) A (eval (.Call (.Name "list" np) [.Call (.Attribute (.Name "self" np2) "neighbors_cw_order" apos) [.Name x vp] [] pos2] [] pos) (envX cn cs L a ccd cl)) Q E s := by
  refine callT "list" S H FO.list (by decide +kernel) (by decide) ?_ hk hl rfl he' rfl
  rw [he']
  refine wpAny_items_cons (methXA S H FC D hs FO.mOrder (by decide) ?_ hk hx rfl he2 rfl he)
  rw [he2]
  refine wpAny_items_cons (nameX_L S.fr hm (wpAny_items_nil ⟨H.X.keeps S.fr.keep, ?_⟩) hk hx2 hd)
  obtain ⟨oc, od, doc, pm, an, cdv, ct, osl, ho, hcd⟩ := FO.order
  have X := H.X.keeps S.fr.keep
  have NL := H.T.nolimit.keeps S.fr.keep
  obtain ⟨A₀, base, outer, B, hA⟩ := H.below
  obtain ⟨FG, B', st, _⟩ := groundX (R := fun _ _ => True) B S.fr S.sit.news hA H.frame H.kind
  generalize hg : hideAll s.heap ((lst μ s.heap.objs.size).map (·.1)) = g at *
  have gsz : g.objs.size = s.heap.objs.size := by rw [← hg]; exact hideAll_size _ _
  have gs_ : ∀ b o, g.get? b = some o → s.heap.get? b = some o := fun b o e => by rw [← hg] at e; exact of_hideAll _ e
  have gmu : ∀ b o, μ b = some o → g.get? b = none := fun b o e => by rw [← hg]; exact hideAll_none _ (List.mem_map.mpr ⟨(b, o), mem_lst.mpr ⟨S.sit.lt e, e⟩, rfl⟩)
  refine codeAny_call_generator (by omega) (X _ _ ho) rfl (by rfl) (by rfl) rfl (codeRec_of X hcd) ?_
  refine (BindsTo.of_eq (binds := [("self", .ref (ad .x)), ("v", .int v tv)]) (by with_unfolding_all rfl) : BindsTo s _ _ _) _ _ _ _ ?_
  refine wpAny_newFunctionEnv (show ∀ x ∈ (sScope (inS 16 5)).names, x.2 ≠ .cell by decide) (locs (by with_unfolding_all rfl)) (fun h1 hns hsb => ⟨NL.fresh _ hsb, wpAny_items_nil ?_⟩) (by rfl)
  have hk1 : ∀ b o, s.heap.get? b = some o → h1.get? b = some o := fun b o e => hsb.extBut b o (Nat.ne_of_lt (Heap.lt_size e)) (Heap.get?_push_of_some _ e)
  have h1sz : h1.objs.size = s.heap.objs.size + 1 := by rw [hsb.1, Heap.size_push]
  have nl1 : h1.NoLimit := NL.keeps hk1
  have big : sysModules < s.heap.objs.size := Nat.lt_trans S.sit.big S.sit.L_lt
  have bigC : cStatics < s.heap.objs.size := by obtain ⟨_, hn, _⟩ := NL; exact hn.lt
  refine list_ready (s := s) FC H B' st gsz gs_ gmu S hJ D W hv hroom (BK := cdv) FO.list (tv := tv) rfl rfl rfl (fun b o e => Heap.get?_push_of_some _ (hk1 b o e)) (hns.push _) ?_ h1sz ?_ (nl1.push _) h
  · exact ⟨_, _, _, Heap.get?_push_size _ rfl, rfl, rfl, rfl⟩
  · rw [Heap.size_push, h1sz]
end
end Mine
end
section -- Data
open PySem PySem.W PySem.Calls PyProof.Rows PyProof.V PySem.Spec
set_option maxRecDepth 100000
set_option linter.unusedVariables false
namespace Mine
structure FData (K : Frag) : Prop where
  iterF : FnIn K 328 "__iter__" "Graph.__iter__" (inS 12 9) [] .none .none
  iterX : findIn K (.ref 906) "__iter__" = some (some (.ref 328))
  iterFn : isFn K (.ref 328) = true
  iter : nsIn K mainGlobals "iter" = some none
  data : FnIn K 788 "get_data" "PlanarEmbedding.get_data" (inS 16 1) [] .none .none
  mData : MethIn K "get_data" 788
  ord : FOrd K

section
variable {w : World} {K : Frag} {p : Program} {loose : List Str} {mean : ExcName → Option Value} {mg mb : Str → Option Value}
variable {A : Around} {env : Env} {h₀ : Heap} {L : Addr} {m : Str → Option Value} {μ μ' : Mu} {s0 : Anc} {s : Shared} {E : Value → Shared → Prop} {ad : Adr} {G : PE} {R : Result → Shared → Prop}
  {KK : Type} [DecidableEq KK] {knd : KeyKind P0 w KK} {kvs : List (KK × Value)} {I d : Addr} {oI od : Obj} {i ep : Nat} {k : KK} {x : Value}

theorem forName {v : Str} {px pos : Pos} {iter : PySem.Expr} {body : List Stmt} {Q : Flow → Shared → Prop} (St : Addr → Nat → Shared → Prop)
    (h : wpAny (model P0 w) A (eval iter env) (fun xv s₁ => wpAny (model P0 w) A (pyIter xv) (fun it s₂ => ∃ I k, it = .ref I ∧ St I k s₂) E s₁) E s)
    (turn : ∀ I k s, St I k s → wpAny (model P0 w) A (pyNext (.ref I)) (fun r s₁ => match r with
      | none => Q .next s₁
      | some y => wpAny (model P0 w) A (storeName env v y) (fun _ s₂ => wpAny (model P0 w) A (execs body env) (fun f s₃ => match f with
          | .next | .cont => ∃ k', k' < k ∧ St I k' s₃
          | .brk => Q .next s₃
          | .ret v => Q (.ret v) s₃) E s₂) E s₁) E s)
    (hs : ∀ x, foldedSetIterable iter env x = pure x := by intro _; rfl) (hE : PassesOwn (model P0 w) A env E := by passes_own) :
    wpAny (model P0 w) A (exec (.For (.Name v px) iter body [] pos) env) Q E s := by
  refine wpAny_For (wpAny_mono h (fun xv s₁ h₁ => wpAny_mono h₁ (fun it s₂ h₂ => ?_) fun _ _ z => z) fun _ _ z => z) hs
  obtain ⟨I, k, rfl, h₂⟩ := h₂
  refine codeAny_forLoop (R := fun r s' => match r with | .ok f => Q f s' | .error e => cameBackBy (model P0 w) A env E e s') (fun k s' => St I k s') (fun k s' hk => ?_) k h₂
  refine wpAny_passesOwn hE (wpAny_mono (turn I k s' hk) (fun r s₁ hr => ?_) fun _ _ z => z)
  cases r with
  | none => exact wpAny_execs_nil hr
  | some y =>
    refine wpAny_passesOwn hE (wpAny_assign_Name (wpAny_mono hr (fun _ s₂ h₂ => ?_) fun _ _ z => z))
    refine wpAny_passesOwn hE (wpAny_mono h₂ (fun f s₃ h₃ => ?_) fun _ _ z => z)
    cases f <;> exact h₃

theorem kNext {Q : Option Value → Shared → Prop} (S : At s0 h₀ L s m μ) (eI : μ I = some oI) (ed : μ d = some od) (hI : KdkIter oI d i kvs.length ep) (ha : KdkAt knd od kvs ep) (hx : kvs[i]? = some (k, x))
    (h : ∀ key s' o', knd.is k key = true → At s0 h₀ L s' m (put μ I o') → KdkIter o' d (i + 1) kvs.length ep → Q (some key) s') : wpAny (model P0 w) A (pyNext (.ref I)) Q E s := by
  refine wpAny_pyNext_dict_item (hI.at (S.get eI)) (ha.dictAt (S.get ed)) hx fun key h' hkey hit' hs' => ?_
  obtain ⟨o', ho', r1, r2⟩ := hit'
  exact h key _ o' hkey (S.heap (S.sit.upd eI hs' ho') s.toks) ⟨r1, r2⟩
theorem kDone {Q : Option Value → Shared → Prop} (hh : A.handled = none) (S : At s0 h₀ L s m μ) (eI : μ I = some oI) (ed : μ d = some od) (hI : KdkIter oI d kvs.length kvs.length ep) (ha : KdkAt knd od kvs ep)
    (le : ∀ a o, μ' a = some o → a ≠ I ∧ μ a = some o) (h : ∀ s', At s0 h₀ L s' m μ' → Q none s') : wpAny (model P0 w) A (pyNext (.ref I)) Q E s := by
  refine wpAny_pyNext_dict_end hh (hI.at (S.get eI)) (ha.dictAt (S.get ed)) (by simp) fun h' he' => ?_
  have iL := (S.sit.led I oI eI)
  refine h _ ⟨⟨⟨S.fr.ns.at' fun o e => he' L o (Ne.symm iL.2.1) e, fun b o e => he' b o (fun q => by rw [q, iL.2.2] at e; cases e) (S.fr.keep b o e), S.fr.above⟩, fun a o e => ⟨he' a o (le a o e).1 (S.get (le a o e).2), (S.sit.led a o (le a o e).2).2⟩, fun a o e => S.sit.low a o (le a o e).2, S.sit.big⟩, S.kp⟩
theorem dIter {Q : Value → Shared → Prop} (S : At s0 h₀ L s m μ) (ed : μ d = some od) (ha : KdkAt knd od kvs ep) (h : ∀ I oI s', μ I = none → At s0 h₀ L s' m (put μ I oI) → KdkIter oI d 0 kvs.length ep → Q (.ref I) s') :
    wpAny (model P0 w) A (pyIter (.ref d)) Q E s := by
  refine wpAny_pyIter_dict (S.low ed) (ha.dictAt (S.get ed)) ?_
  exact h _ _ _ S.sit.new_none (S.heap (S.sit.push _) s.toks) ⟨rfl, rfl⟩
theorem dIterB {Q : Value → Shared → Prop} (S : At s0 h₀ L s m μ) (ed : μ d = some od) (ha : KdkAt knd od kvs ep) (h : ∀ I oI s', μ I = none → At s0 h₀ L s' m (put μ I oI) → KdkIter oI d 0 kvs.length ep → Q (.ref I) s') :
    wpAny (model P0 w) A (call (.builtin "iter") [.ref d]) Q E s := by
  refine call_function_entry (by decide +kernel) (by decide +kernel) kdk_entry_iter (kdk_args_iter _) ?_
  unfold Builtin.«iter»
  refine wpAny_bind (m := someArgs "iter" 1 2 _) (wpAny_of_eq (a := [Value.ref d]) (by first | rfl | kernel_rfl!) ?_)
  show wpAny _ _ (pyIter (.ref d) >>= _) _ _ _
  exact wpAny_bind (dIter S ed ha fun I oI s' hI S' hK => wpAny_pure ⟨_, rfl, h I oI s' hI S' hK⟩)

theorem iter_spec {od : Obj} {kvs : List (Int × Value)} (FD : FData K) (FC : FCls K) (H : Here K p loose mean mg mb A env h₀ L) (S : At s0 h₀ L s m μ) (D : Dr w μ ad G) (ed : μ (ad .nd) = some od) (ha : KdkAt (ik w) od kvs ep) (hroom : A.depth < recursionLimit)
    (post : ∀ I oI s', μ I = none → At s0 h₀ L s' m (put μ I oI) → KdkIter oI (ad .nd) 0 kvs.length ep → R (.ok (.ret (.ref I))) s') :
    codeAny (model P0 w) A (.call (.ref 328) ⟨[.ref (ad .x)], []⟩) R s := by
  obtain ⟨oc, od', doc, pm, an, cdv, ct, osl, ho, hcd⟩ := FD.iterF
  refine call_def (binds := [("self", .ref (ad .x))]) H S ho hcd hroom (BindsTo.of_eq (by with_unfolding_all rfl)) (locs (by with_unfolding_all rfl)) (fun g L' s₁ H' S1 _ => ?_) (by decide)
  refine wpAny_execs_cons (wpAny_Return_some (callB "iter" S1 H' FD.iter (by decide +kernel) (by decide) (wpAny_items_cons (attrX S1 H' FC D (by rfl) FC.node (v := .ref (ad .nd)) (fun es n h => ddo_node h) rfl fun s2 S2 => wpAny_items_nil ?_))))
  exact dIterB S2 ed ha fun I oI s3 hI S3 hK => Back.intro S3 fun k => post I oI _ hI k hK
end
end Mine
end
section -- Data2
open PySem PySem.W PySem.Calls PyProof.Rows PyProof.V PySem.Spec
set_option maxRecDepth 100000
set_option linter.unusedVariables false
namespace Mine
def Emb (w : World) (μ : Mu) (d : Addr) (ks : List Int) (rows : Int → List Int) (la : Int → Addr) : Prop :=
  (∃ od, μ d = some od ∧ od.IsDictOf (ik w) (ks.map fun v => (v, Value.ref (la v)))) ∧ ∀ v ∈ ks, ∃ ol vs, μ (la v) = some ol ∧ LO vs ol ∧ IntsAre vs (rows v)
theorem Emb.mono {w : World} {μ μ' : Mu} {d : Addr} {ks : List Int} {rows : Int → List Int} {la : Int → Addr} (E : Emb w μ d ks rows la) (h : ∀ a o, μ a = some o → μ' a = some o) : Emb w μ' d ks rows la := by
  obtain ⟨⟨od, e, hd⟩, r⟩ := E
  exact ⟨⟨od, h _ _ e, hd⟩, fun v hv => let ⟨ol, vs, e, a, b⟩ := r v hv; ⟨ol, vs, h _ _ e, a, b⟩⟩
theorem fst_map (l : List Int) (g : Int → Value) : (l.map fun v => (v, g v)).map (·.1) = l := by rw [List.map_map]; exact List.map_id _
theorem isInt_of {w : World} {k : Int} {v : Value} (h : (ik w).is k v = true) : ∃ t, v = .int k t := by
  have : Value.isInt k v = true := h
  cases v <;> simp [Value.isInt] at this
  rename_i i t
  exact ⟨t, by rw [this]⟩
section
variable {w : World} {K : Frag} {p : Program} {loose : List Str} {mean : ExcName → Option Value} {mg mb : Str → Option Value}
variable {A : Around} {env : Env} {h₀ : Heap} {L : Addr} {m : Str → Option Value} {μ μ' : Mu} {s0 : Anc} {s : Shared} {E : Value → Shared → Prop} {ad : Adr} {G : PE} {R : Result → Shared → Prop} {rows : Int → List Int}

theorem data_spec (FD : FData K) (FC : FCls K) (H : Here K p loose mean mg mb A env h₀ L) (S : At s0 h₀ L s m μ) (hJ : s0.J = AllBare) (D : Dr w μ ad G) (same : G.Same) (W : ∀ v ∈ G.ks, Walk G v (rows v)) (hroom : A.depth + 3 < recursionLimit)
    (post : ∀ d la s' μ', At s0 h₀ L s' m μ' → (∀ a o, μ a = some o → μ' a = some o) → Emb w μ' d G.ks rows la → R (.ok (.ret (.ref d))) s') :
    codeAny (model P0 w) A (.call (.ref 788) ⟨[.ref (ad .x)], []⟩) R s := by
  obtain ⟨oc, od', doc, pm, an, cdv, ct, osl, ho, hcd⟩ := FD.data
  refine call_def (binds := [("self", .ref (ad .x))]) H S ho hcd (by omega) (BindsTo.of_eq (by with_unfolding_all rfl)) (locs (by with_unfolding_all rfl)) (fun g L' s₁ H' S1 _ => ?_) (by decide)
  refine wpAny_execs_cons (wpAny_Assign_Name (dNew S1 fun d od s2 hd S2 he => stL S2 fun s3 S3 => ?_))
  obtain ⟨ond, end_, kvs, hnd, hkn⟩ := D.at_ .nd trivial
  obtain ⟨ep, ha⟩ := KdkAt.of hnd
  have hkn : kvs.map (·.1) = G.ks := same.1 ▸ hkn
  have hnodup : G.ks.Nodup := hkn ▸ isDict_nodup hnd
  have hlen : kvs.length = G.ks.length := by rw [← hkn, List.length_map]
  have up2 : ∀ a o, μ a = some o → put μ d od a = some o := fun a o e => (put_ne fun q => by rw [q, hd] at e; cases e).trans e
  let St : Addr → Nat → Shared → Prop := fun I k s => ∃ i oI m2 μ2 la, i + k = G.ks.length ∧ At s0 g L' s m2 μ2 ∧ μ2 I = some oI ∧ KdkIter oI (ad .nd) i kvs.length ep ∧ (∀ a o, μ a = some o → μ2 a = some o) ∧ μ I = none ∧ I ≠ d ∧
    m2 "self" = some (.ref (ad .x)) ∧ m2 "embedding" = some (.ref d) ∧ Emb w μ2 d (G.ks.take i) rows la ∧ ∀ v ∈ G.ks.take i, la v ≠ I
  refine wpAny_execs_cons (forName St (nameX_L S3.fr (by rfl) ?_) (fun I k s hSt => ?_))
  · -- iter(self)
    obtain ⟨es, n, hD, Ix⟩ := (D.mono fun r l o e => up2 _ o e).inst S3
    refine owit_iter S3.fr H'.X Ix FD.iterX FD.iterFn (wpAny_call ?_)
    refine iter_spec FD FC H' S3 (D.mono fun r l o e => up2 _ o e) (up2 _ _ end_) ha (by show A.depth + 1 < _; omega) fun I oI s4 hI S4 hK => ?_
    have hT := (hK.at (S4.get put_self)).typeIs
    refine wpAny_specialOf hT PySem.F.slot_dict_keyiterator_next.lookup ?_
    refine ⟨I, G.ks.length, rfl, 0, oI, _, _, fun _ => 0, Nat.zero_add _, S4, put_self, hK, fun a o e => ?_, ?_, ?_, by rfl, by rfl, ⟨⟨od, ?_, he.2 _⟩, fun v hv => nomatch hv⟩, fun v hv => nomatch hv⟩
    · exact (put_ne fun q => by have := up2 a o e; rw [q, hI] at this; cases this).trans (up2 a o e)
    · cases q : μ I with
      | none => rfl
      | some o => have := up2 I o q; rw [hI] at this; cases this
    · rintro rfl; rw [put_self] at hI; cases hI
    · refine (put_ne fun q => ?_).trans put_self
      rw [← q, put_self] at hI; cases hI
  · obtain ⟨i, oI, m2, μ2, la, hik, S4, eI, hK, up, hI0, hId, ms, me, Em, hla⟩ := hSt
    have end2 := up _ _ end_
    by_cases hi : i < kvs.length
    · obtain ⟨⟨v, x⟩, hx⟩ : ∃ p, kvs[i]? = some p := ⟨kvs[i], by simp [hi]⟩
      have hv : G.ks[i]? = some v := by rw [← hkn, List.getElem?_map, hx]; rfl
      have hvm : v ∈ G.ks := List.mem_of_getElem? hv
      have hil : i < G.ks.length := by omega
      have hvi : G.ks[i] = v := by rw [List.getElem?_eq_getElem hil] at hv; exact Option.some.inj hv
      have hvt : v ∉ G.ks.take i := fun q => by
        have h1 : (G.ks.take (i + 1)).Nodup := hnodup.sublist (List.take_sublist _ _)
        rw [List.take_add_one, hv] at h1
        exact (List.nodup_append.mp h1).2.2 v q v (by simp) rfl
      refine kNext S4 eI end2 hK ha hx fun key s5 oI' hkey S5 hK' => ?_
      obtain ⟨tv, rfl⟩ := isInt_of hkey
      refine stL S5 fun s6 S6 => ?_
      have up6 : ∀ a o, μ a = some o → put μ2 I oI' a = some o := fun a o e => (put_ne fun q => by rw [q, hI0] at e; cases e).trans (up a o e)
      have D6 := D.mono (μ' := put μ2 I oI') fun r l o e => up6 _ o e
      refine wpAny_execs_cons (wpAny_Assign_Subscript (listOrder FD.ord FC H' S6 hJ D6 (W v hvm) hvm (by exact ms) (by rfl) (by show A.depth + 1 + 1 < _; omega) fun l ol vs s7 hl S7 hlo hints => nameX_L S7.fr (by exact me) (nameX_L S7.fr (by rfl) ?_)) (by rfl))
      obtain ⟨⟨ode, ede, hde⟩, hrest⟩ := Em
      have hlI : l ≠ I := fun q => by rw [q, put_self] at hl; cases hl
      have hl2 : μ2 l = none := by rwa [put_ne hlI] at hl
      have hld : l ≠ d := fun q => by rw [q, ede] at hl2; cases hl2
      have ede7 : put (put μ2 I oI') l ol d = some ode := (put_ne (Ne.symm hld)).trans ((put_ne (Ne.symm hId)).trans ede)
      refine dSet S7 ede7 hde (intKind_is ..) (le_line (by
        have : G.ks.length ≤ 5 := le5 hnodup D.ok.ks
        rw [List.length_map, List.length_take]; omega)) fun s8 o8 S8 hd8 => wpAny_execs_nil ?_
      refine ⟨k - 1, by omega, i + 1, oI', _, _, fun u => if u = v then l else la u, by omega, S8, ?_, hK', fun a o e => ?_, hI0, hId, by exact ms, by exact me, ⟨⟨o8, put_self, ?_⟩, fun u hu => ?_⟩, fun u hu => ?_⟩
      · exact (put_ne hId).trans ((put_ne (Ne.symm hlI)).trans put_self)
      · have e6 := up6 a o e
        have h1 : a ≠ l := fun q => by rw [q, hl] at e6; cases e6
        have h2 : a ≠ d := fun q => by rw [q, hd] at e; cases e
        exact (put_ne h2).trans ((put_ne h1).trans e6)
      · rw [stored_fresh (by rw [fst_map]; exact hvt)] at hd8
        rw [List.take_add_one, hv, List.map_append]
        have : ((G.ks.take i).map fun u => (u, Value.ref (if u = v then l else la u))) = (G.ks.take i).map fun u => (u, Value.ref (la u)) :=
          List.map_congr_left fun u hu => by rw [if_neg (fun q : u = v => hvt (q ▸ hu))]
        rw [this]
        simpa using hd8
      · rw [List.take_add_one, hv] at hu
        rcases List.mem_append.mp hu with q | q
        · have huv : u ≠ v := fun z => hvt (z ▸ q)
          obtain ⟨olu, vsu, eu, a1, a2⟩ := hrest u q
          refine ⟨olu, vsu, ?_, a1, a2⟩
          show put (put (put μ2 I oI') l ol) d o8 (if u = v then l else la u) = some olu
          rw [if_neg huv]
          have z1 : la u ≠ d := fun z => by
            rw [z, ede] at eu; cases eu
            have := isDict_cls hde
            rw [a1.1] at this; simp at this
          have z2 : la u ≠ l := fun z => by rw [z, hl2] at eu; cases eu
          exact (put_ne z1).trans ((put_ne z2).trans ((put_ne (hla u q)).trans eu))
        · have huv : u = v := by simpa using q
          subst huv
          refine ⟨ol, vs, ?_, hlo, hints⟩
          show put (put (put μ2 I oI') l ol) d o8 (if u = u then l else la u) = some ol
          rw [if_pos rfl]
          exact (put_ne hld).trans put_self
      · rw [List.take_add_one, hv] at hu
        show (if u = v then l else la u) ≠ I
        rcases List.mem_append.mp hu with q | q
        · rw [if_neg (fun z : u = v => hvt (z ▸ q))]; exact hla u q
        · have huv : u = v := by simpa using q
          rw [if_pos huv]; exact hlI
    · have hil : i = kvs.length := by have := hK; omega
      subst hil
      refine kDone (μ' := fun a => if a = I then none else μ2 a) H'.hand S4 eI end2 hK ha (fun a o e => ?_) fun s5 S5 => ?_
      · by_cases q : a = I
        · rw [if_pos q] at e; cases e
        · rw [if_neg q] at e; exact ⟨q, e⟩
      refine wpAny_execs_cons (wpAny_Return_some (nameX_L S5.fr me ?_))
      refine Back.intro S5 fun kk => post d la _ _ kk (fun a o e => ?_) ?_
      · have : a ≠ I := fun q => by rw [q, hI0] at e; cases e
        show (if a = I then none else μ2 a) = some o
        rw [if_neg this]; exact up a o e
      · rw [hlen, List.take_length] at Em hla
        obtain ⟨⟨ode, ede, hde⟩, hrest⟩ := Em
        refine ⟨⟨ode, ?_, hde⟩, fun v hv => ?_⟩
        · show (if d = I then none else μ2 d) = some ode
          rw [if_neg (Ne.symm hId)]; exact ede
        · obtain ⟨ol, vs, e, a1, a2⟩ := hrest v hv
          refine ⟨ol, vs, ?_, a1, a2⟩
          show (if la v = I then none else μ2 (la v)) = some ol
          rw [if_neg (hla v hv)]; exact e
end
end Mine
end
section -- Cell
open PySem PySem.W PySem.Calls PyProof.Rows PyProof.V PySem.Spec
set_option maxRecDepth 100000
set_option linter.unusedVariables false
namespace Mine
def CellO (v : Option Value) (o : Obj) : Prop := o.data = .cell v
def NsO (m : Str → Option Value) (o : Obj) : Prop := ∃ es ep, o.data = .dict es ep ∧ StrKeys es ∧ ∀ name, nsFind es name = m name
theorem NsO.ns {h : Heap} {C : Addr} {o : Obj} {m : Str → Option Value} (x : NsO m o) (e : h.get? C = some o) : h.Ns C m := let ⟨es, ep, hd, r⟩ := x; ⟨o, es, ep, e, hd, r⟩
theorem NsO.of {h : Heap} {C : Addr} {m : Str → Option Value} (x : h.Ns C m) : ∃ o, h.get? C = some o ∧ NsO m o := let ⟨o, es, ep, e, hd, r⟩ := x; ⟨o, e, es, ep, hd, r⟩

section
variable {w : World} {K : Frag} {p : Program} {loose : List Str} {mean : ExcName → Option Value} {mg mb : Str → Option Value}
variable {A A' : Around} {env env' : Env} {h₀ : Heap} {L : Addr} {m m₂ : Str → Option Value} {μ μ' : Mu} {s0 : Anc} {s : Shared} {E : Value → Shared → Prop} {x : Str} {c : Addr} {oc : Obj} {v : Value} {v₀ : Option Value} {pos : Pos}

theorem nameCell {Q : Value → Shared → Prop} (S : At s0 h₀ L s m μ) (e : μ c = some oc) (ho : CellO (some v) oc) (h : Q v s)
    (hk : env.scope.kind = .function := by rfl) (hl : env.kindOf x = some .cell := by rfl) (hc : env.cells.lookup x = some c := by rfl) (hd : (x == ("__debug__" : Str)) = false := by decide) : wpAny (model P0 w) A (eval (.Name x pos) env) Q E s :=
  wpAny_Name (wpAny_loadName_cell hk hl hc ⟨oc, S.get e, ho⟩ h) hd
theorem stCell {Q : Unit → Shared → Prop} (S : At s0 h₀ L s m μ) (e : μ c = some oc) (ho : CellO v₀ oc) (h : ∀ s' o', At s0 h₀ L s' m (put μ c o') → CellO (some v) o' → Q () s')
    (hk : env.scope.kind = .function := by rfl) (hl : env.kindOf x = some .cell := by rfl) (hc : env.cells.lookup x = some c := by rfl) : wpAny (model P0 w) A (storeName env x v) Q E s :=
  wpAny_storeName_cell hk hl hc ⟨oc, S.get e, ho⟩ fun h' hcell hs => by
    obtain ⟨o', ho', hd⟩ := hcell
    exact h _ o' (S.heap (S.sit.upd e hs ho') s.toks) hd
theorem nameLoc {Q : Value → Shared → Prop} (S : At s0 h₀ L s m μ) (e : μ env.locals = some oc) (ho : NsO m₂ oc) (hv : m₂ x = some v) (h : Q v s)
    (hk : env.scope.kind = .function := by rfl) (hl : env.kindOf x = some .local := by rfl) (hd : (x == ("__debug__" : Str)) = false := by decide) : wpAny (model P0 w) A (eval (.Name x pos) env) Q E s :=
  wpAny_Name (wpAny_loadName_local hk hl (ho.ns (S.get e)) hv h) hd
theorem stLoc {Q : Unit → Shared → Prop} (S : At s0 h₀ L s m μ) (e : μ env.locals = some oc) (ho : NsO m₂ oc) (h : ∀ s' o', At s0 h₀ L s' m (put μ env.locals o') → NsO (fun y => if y = x then some v else m₂ y) o' → Q () s')
    (hl : env.kindOf x = some .local := by rfl) (hp : (env.scope.kind == .class || (env.scope.kind == .module && env.locals != env.globals)) = false := by rfl) : wpAny (model P0 w) A (storeName env x v) Q E s :=
  wpAny_storeName_local hl (ho.ns (S.get e)) (fun h' hn hs => by
    obtain ⟨o', ho', hx⟩ := NsO.of hn
    exact h _ o' (S.heap (S.sit.upd e hs ho') _) hx) hp

theorem nameBE {Q : Value → Shared → Prop} (S : At s0 h₀ L s m μ) (H : Here K p loose mean mg mb A' env' h₀ L) (hn : nsIn K mainGlobals x = some none) (hv : bootBuiltins x = some v) (hnn : x ≠ "__name__") (h : Q v s)
    (hk : env.scope.kind = .function := by rfl) (hl : env.kindOf x = some .globalImplicit := by rfl) (hg : env.globals = mainGlobals := by rfl) (hb : env.builtins = builtinsNs := by rfl) (hd : (x == ("__debug__" : Str)) = false := by decide) :
    wpAny (model P0 w) A (eval (.Name x pos) env) Q E s :=
  Name_function_global hk hl (loadGlobal_builtin (by rw [hg]; exact H.T.g.keeps S.fr.keep) (mg_none_of H.X H.T.g hn) (by rw [hb]; exact H.T.b.keeps S.fr.keep) ((H.T.builtins x hnn).trans hv) h) hd
end
end Mine
end
section -- CompR
open PySem PySem.W PySem.Calls PyProof.Rows PyProof.V PySem.Spec
set_option maxRecDepth 100000
set_option linter.unusedVariables false
namespace Mine
def Ext (μ μ' : Mu) : Prop := ∀ a o, μ a = some o → μ' a = some o
theorem Ext.rfl' (μ : Mu) : Ext μ μ := fun _ _ e => e
theorem Ext.trans {a b c : Mu} (x : Ext a b) (y : Ext b c) : Ext a c := fun _ _ e => y _ _ (x _ _ e)
theorem Ext.new {μ : Mu} {l : Addr} {o : Obj} (h : μ l = none) : Ext μ (put μ l o) := fun a x e => (put_ne fun q => by rw [q, h] at e; cases e).trans e
def del (μ : Mu) (I : Addr) : Mu := fun a => if a = I then none else μ a
theorem del_ne {μ : Mu} {I a : Addr} (h : a ≠ I) : del μ I a = μ a := if_neg h
def hid (I C D : Addr) (μ : Mu) : Mu := fun a => if a = I ∨ a = C ∨ a = D then none else μ a
theorem hid_some {I C D a : Addr} {μ : Mu} {o : Obj} : hid I C D μ a = some o ↔ a ≠ I ∧ a ≠ C ∧ a ≠ D ∧ μ a = some o := by
  unfold hid
  split
  · rename_i q
    constructor
    · intro e; cases e
    · rintro ⟨a1, a2, a3, _⟩
      rcases q with q | q | q
      · exact absurd q a1
      · exact absurd q a2
      · exact absurd q a3
  · rename_i q
    exact ⟨fun e => ⟨fun z => q (.inl z), fun z => q (.inr (.inl z)), fun z => q (.inr (.inr z)), e⟩, fun e => e.2.2.2⟩
theorem Ext.hid {I C D : Addr} {μ μ' : Mu} (h : Ext μ μ') : Ext (hid I C D μ) (hid I C D μ') := fun a o e => let ⟨a1, a2, a3, e⟩ := hid_some.mp e; hid_some.mpr ⟨a1, a2, a3, h a o e⟩
theorem hid_putI {I C D : Addr} {μ : Mu} {o : Obj} : Ext (hid I C D μ) (hid I C D (put μ I o)) := fun a x e => let ⟨a1, a2, a3, e⟩ := hid_some.mp e; hid_some.mpr ⟨a1, a2, a3, (put_ne a1).trans e⟩
theorem hid_putC {I C D : Addr} {μ : Mu} {o : Obj} : Ext (hid I C D μ) (hid I C D (put μ C o)) := fun a x e => let ⟨a1, a2, a3, e⟩ := hid_some.mp e; hid_some.mpr ⟨a1, a2, a3, (put_ne a2).trans e⟩
theorem hid_putD {I C D : Addr} {μ : Mu} {o : Obj} : Ext (hid I C D μ) (hid I C D (put μ D o)) := fun a x e => let ⟨a1, a2, a3, e⟩ := hid_some.mp e; hid_some.mpr ⟨a1, a2, a3, (put_ne a3).trans e⟩

structure ItR (w : World) (A : Around) (I : Addr) (n : Nat) (IsI : Nat → Obj → Prop) (Src : Mu → Prop) (Itm : Nat → Value → Prop) : Prop where
  item : ∀ {s0 h₀ L m μ s oI i} {Q : Option Value → Shared → Prop} {E : Value → Shared → Prop}, i < n → At s0 h₀ L s m μ → μ I = some oI → IsI i oI → Src μ → (∀ v s' o', Itm i v → At s0 h₀ L s' m (put μ I o') → IsI (i + 1) o' → Q (some v) s') → wpAny (model P0 w) A (pyNext (.ref I)) Q E s
  done : ∀ {s0 h₀ L m μ s oI} {Q : Option Value → Shared → Prop} {E : Value → Shared → Prop}, At s0 h₀ L s m μ → μ I = some oI → IsI n oI → Src μ → (∀ s', At s0 h₀ L s' m (del μ I) → Q none s') → wpAny (model P0 w) A (pyNext (.ref I)) Q E s
  self : ∀ {s0 h₀ L m μ s oI i} {Q : Value → Shared → Prop} {E : Value → Shared → Prop}, At s0 h₀ L s m μ → μ I = some oI → IsI i oI → Q (.ref I) s → wpAny (model P0 w) A (pyIter (.ref I)) Q E s
  mono : ∀ {μ μ'}, Ext μ μ' → Src μ → Src μ'

theorem At.del_of {s0 : Anc} {h₀ h' : Heap} {L I : Addr} {s : Shared} {m : Str → Option Value} {μ : Mu} {oI : Obj} {tk : Nat} (S : At s0 h₀ L s m μ) (eI : μ I = some oI) (he : Heap.ExtBut I s.heap h') : At s0 h₀ L { s with heap := h', toks := tk } m (del μ I) := by
  have iL := S.sit.led I oI eI
  have le : ∀ a o, del μ I a = some o → a ≠ I ∧ μ a = some o := fun a o e => by
    by_cases q : a = I
    · subst q; unfold del at e; rw [if_pos rfl] at e; cases e
    · rw [del_ne q] at e; exact ⟨q, e⟩
  exact ⟨⟨⟨S.fr.ns.at' fun o e => he L o (Ne.symm iL.2.1) e, fun b o e => he b o (fun q => by rw [q, iL.2.2] at e; cases e) (S.fr.keep b o e), S.fr.above⟩, fun a o e => ⟨he a o (le a o e).1 (S.get (le a o e).2), (S.sit.led a o (le a o e).2).2⟩, fun a o e => S.sit.low a o (le a o e).2, S.sit.big⟩, S.kp⟩

section
variable {w : World} {A : Around}
def RgI (a : Int) (n : Nat) (i : Nat) (o : Obj) : Prop := o = { cls := .type "range_iterator", dict := none, data := .fields #[rawInt (a + (i : Nat) * 1), rawInt ((n : Int) - (i : Nat)), rawInt 1], slots := #[] }
theorem itRange (hh : A.handled = none) (I : Addr) (a : Int) (n : Nat) : ItR w A I n (RgI a n) (fun _ => True) (fun i v => ∃ t, v = .int (a + (i : Int)) t) where
  item := fun {s0 h₀ L m μ s oI i Q E} hi S eI hI _ h => by
    refine wpAny_pyNext_range_item (x := a + (i : Nat) * 1) (left := (n : Int) - (i : Nat)) (step := 1) ((S.get eI).trans (congrArg some hI)) (by omega) fun h' hit' hs' => ?_
    refine h _ _ _ ⟨_, by rw [Int.mul_one]⟩ (S.heap (S.sit.upd eI hs' hit') _) ?_
    unfold RgI
    have e1 : a + ((i + 1 : Nat) : Int) * 1 = a + (i : Int) * 1 + 1 := by push_cast; omega
    have e2 : (n : Int) - ((i + 1 : Nat) : Int) = (n : Int) - (i : Int) - 1 := by push_cast; omega
    rw [e1, e2]
  done := fun {s0 h₀ L m μ s oI Q E} S eI hI _ h => by
    refine wpAny_pyNext_range_end (x := a + (n : Nat) * 1) (left := (n : Int) - (n : Nat)) (step := 1) hh ((S.get eI).trans (congrArg some hI)) (by omega) fun h' he' => ?_
    exact h _ (S.del_of eI he')
  self := fun {s0 h₀ L m μ s oI i Q E} S eI hI h => wpAny_pyIter_rangeiter (x := a + (i : Nat) * 1) (left := (n : Int) - (i : Nat)) (step := 1) ((S.get eI).trans (congrArg some hI)) h
  mono := fun _ _ => trivial
theorem itKeys {KK : Type} [DecidableEq KK] {knd : KeyKind P0 w KK} {kvs : List (KK × Value)} {ep : Nat} (hh : A.handled = none) (I d : Addr) :
    ItR w A I kvs.length (fun i o => KdkIter o d i kvs.length ep) (fun μ => ∃ od, μ d = some od ∧ KdkAt knd od kvs ep) (fun i v => ∃ k x, kvs[i]? = some (k, x) ∧ knd.is k v = true) where
  item := fun {s0 h₀ L m μ s oI i Q E} hi S eI hI ⟨od, ed, ha⟩ h => by
    obtain ⟨⟨k, x⟩, hx⟩ : ∃ p, kvs[i]? = some p := ⟨kvs[i], by simp [hi]⟩
    exact kNext S eI ed hI ha hx fun key s' o' hkey S' hK => h key s' o' ⟨k, x, hx, hkey⟩ S' hK
  done := fun {s0 h₀ L m μ s oI Q E} S eI hI ⟨od, ed, ha⟩ h => by
    refine wpAny_pyNext_dict_end hh (hI.at (S.get eI)) (ha.dictAt (S.get ed)) (by simp) fun h' he' => h _ (S.del_of eI he')
  self := fun {s0 h₀ L m μ s oI i Q E} S eI hI h => wpAny_pyIter_keyiter (hI.at (S.get eI)) h
  mono := fun x ⟨od, ed, ha⟩ => ⟨od, x _ _ ed, ha⟩

theorem appL {s0 : Anc} {h₀ : Heap} {L l : Addr} {m : Str → Option Value} {μ : Mu} {s : Shared} {o : Obj} {items : List Value} {x : Value} {Q : Value → Shared → Prop} {E : Value → Shared → Prop} (S : At s0 h₀ L s m μ) (e : μ l = some o) (hl : LO items o) (hsz : items.length ≤ sizeLine)
    (h : ∀ s' o', At s0 h₀ L s' m (put μ l o') → LO (items ++ [x]) o' → Q .none s') : wpAny (model P0 w) A (call (.builtin "list.append") [.ref l, x]) Q E s := by
  refine wpAny_list_append (hl.isList (S.get e)) (fun h' hi hs => ?_) (by simpa using hsz)
  obtain ⟨o', ho, hlo⟩ := LO.of (its := items ++ [x]) hi (by simp)
  exact h _ o' (S.heap (S.sit.upd e hs ho) s.toks) hlo

theorem compLoop_At {x : Str} {px : Pos} {elt iter : PySem.Expr} {ifs : List PySem.Expr} {scope : Scope} {pos : Pos} {cenv : Env} {I C D : Addr} {n : Nat} {IsI : Nat → Obj → Prop} {Src : Mu → Prop} {Itm : Nat → Value → Prop} (IR : ItR w A I n IsI Src Itm)
    {s0 : Anc} {h₀ : Heap} {L : Addr} {m : Str → Option Value} {s : Shared} {μ : Mu} {oI oC oD : Obj} {R : Result → Shared → Prop}
    (CInv : Obj → Prop) (HoldsV : Obj → Value → Prop) (P : Nat → List Value → Mu → Prop)
    (hst : ∀ {v s μ oC} {Q : Unit → Shared → Prop} {E : Value → Shared → Prop}, At s0 h₀ L s m μ → μ C = some oC → CInv oC → (∀ s' o', At s0 h₀ L s' m (put μ C o') → CInv o' → HoldsV o' v → Q () s') → wpAny (model P0 w) A (assign (.Name x px) cenv v) Q E s)
    (hP : ∀ i ys μ μ', Ext μ μ' → P i ys μ → P i ys μ')
    (turn : ∀ {i v ys μ s oC} {E' : Value → Shared → Prop}, i < n → At s0 h₀ L s m μ → Itm i v → μ C = some oC → HoldsV oC v → P i ys (hid I C D μ) → Src (hid I C D μ) → (∀ l o μ', μ l = none → Ext μ μ' → μ' l = some o → hid I C D μ' l = some o) →
      wpAny (model P0 w) A (forIn ifs true fun c r => if r = true then do let ok ← isTrue c cenv (eval c cenv); pure (ForInStep.yield ok) else pure (ForInStep.yield r)) (fun ok s₂ => ∃ μ₂, At s0 h₀ L s₂ m μ₂ ∧ Ext μ μ₂ ∧
        if ok = true then wpAny (model P0 w) A (eval elt cenv) (fun y s₃ => ∃ μ₃, At s0 h₀ L s₃ m μ₃ ∧ Ext μ₂ μ₃ ∧ P (i + 1) (ys ++ [y]) (hid I C D μ₃)) E' s₂ else P (i + 1) ys (hid I C D μ₂)) E' s)
    (hn : n ≤ 100) (S : At s0 h₀ L s m μ) (eI : μ I = some oI) (hI : IsI 0 oI) (eC : μ C = some oC) (hC : CInv oC) (eD : μ D = some oD) (hD : LO [] oD) (p0 : P 0 [] (hid I C D μ)) (src : Src (hid I C D μ)) (hIC : I ≠ C) (hID : I ≠ D) (hCD : C ≠ D)
    (fin : ∀ {ys μ s oC oD}, At s0 h₀ L s m μ → μ C = some oC → CInv oC → μ D = some oD → LO ys oD → P n ys (hid I C D μ) → R (.ok .next) s) :
    codeAny (model P0 w) A (.compLoop (.ListComp elt [⟨.Name x px, iter, ifs, 0⟩] scope pos) 0 (.ref I) (.ref D) cenv) R s := by
  refine codeAny_compLoop_tests (fun k s => ∃ i ys μ oI oC oD, i + k = n ∧ ys.length ≤ i ∧ At s0 h₀ L s m μ ∧ μ I = some oI ∧ IsI i oI ∧ μ C = some oC ∧ CInv oC ∧ μ D = some oD ∧ LO ys oD ∧ P i ys (hid I C D μ) ∧ Src (hid I C D μ)) ?_ n
    ⟨0, [], μ, oI, oC, oD, by omega, by simp, S, eI, hI, eC, hC, eD, hD, p0, src⟩
  rintro k s ⟨i, ys, μ, oI, oC, oD, hk, hy, S, eI, hI, eC, hC, eD, hD, p, src⟩
  have srcX : Src μ := IR.mono (fun a o e => (hid_some.mp e).2.2.2) src
  by_cases hi : i < n
  · refine IR.item hi S eI hI srcX fun v s1 oI' hv S1 hI1 => ?_
    refine hst S1 ((put_ne (Ne.symm hIC)).trans eC) hC fun s2 oC' S2 hC2 hH => ?_
    refine wpAny_mono (turn (E' := notedBy (model P0 w) A cenv fun e s' => R (.error e) s') hi S2 hv put_self hH (hP _ _ _ _ (hid_putI.trans hid_putC) p) (IR.mono (hid_putI.trans hid_putC) src) (fun l o μ' hl hx e => hid_some.mpr ⟨fun q => ?_, fun q => ?_, fun q => ?_, e⟩)) (fun ok s3 h3 => ?_) fun _ _ z => z
    · rw [q, put_ne hIC, put_self] at hl; cases hl
    · rw [q, put_self] at hl; cases hl
    · rw [q, put_ne (Ne.symm hCD), put_ne (Ne.symm hID), eD] at hl; cases hl
    obtain ⟨μ₂, S3, x2, h3⟩ := h3
    have eI2 : μ₂ I = some oI' := x2 _ _ ((put_ne hIC).trans put_self)
    have eC2 : μ₂ C = some oC' := x2 _ _ put_self
    have eD2 : μ₂ D = some oD := x2 _ _ ((put_ne (Ne.symm hCD)).trans ((put_ne (Ne.symm hID)).trans eD))
    have src2 : Src (hid I C D μ₂) := IR.mono ((hid_putI.trans hid_putC).trans x2.hid) src
    cases ok with
    | true =>
      simp only [if_true] at h3 ⊢
      refine wpAny_mono h3 (fun y s4 h4 => ?_) fun _ _ z => z
      obtain ⟨μ₃, S4, x3, p4⟩ := h4
      refine appL S4 (x3 _ _ eD2) hD (le_line (by omega)) fun s5 oD' S5 hD5 => ?_
      exact ⟨k - 1, by omega, i + 1, ys ++ [y], _, oI', oC', oD', by omega, by simp; omega, S5, (put_ne hID).trans (x3 _ _ eI2), hI1, (put_ne hCD).trans (x3 _ _ eC2), hC2, put_self, hD5, hP _ _ _ _ hid_putD p4, IR.mono (x3.hid.trans hid_putD) src2⟩
    | false =>
      simp only [Bool.false_eq_true, if_false] at h3 ⊢
      exact ⟨k - 1, by omega, i + 1, ys, μ₂, oI', oC', oD, by omega, by omega, S3, eI2, hI1, eC2, hC2, eD2, hD, h3, src2⟩
  · have hin : i = n := by omega
    subst hin
    refine IR.done S eI hI srcX fun s1 S1 => ?_
    refine fin S1 ((del_ne (Ne.symm hIC)).trans eC) hC ((del_ne (Ne.symm hID)).trans eD) hD (hP _ _ _ _ (fun a o e => ?_) p)
    obtain ⟨a1, a2, a3, e⟩ := hid_some.mp e
    exact hid_some.mpr ⟨a1, a2, a3, (del_ne a1).trans e⟩
end
end Mine
end
section -- CompE
open PySem PySem.W PySem.Calls PyProof.Rows PyProof.V PySem.Spec
set_option maxRecDepth 100000
set_option linter.unusedVariables false
namespace Mine
abbrev emptyL : Obj := { cls := .type "list", data := .seq ([] : List Value).toArray }
section
variable {w : World} {A : Around} {s0 : Anc} {h₀ : Heap} {L : Addr} {m : Str → Option Value} {s : Shared} {env : Env} {E : Value → Shared → Prop}

theorem At.newFn {μ : Mu} {h' : Heap} {m' : Str → Option Value} {tk : Nat} {o₀ : Obj} (S : At s0 h₀ L s m μ) (hns : h'.Ns s.heap.objs.size m') (hsb : Heap.SameBut s.heap.objs.size (s.heap.push o₀) h') :
    ∃ oC, NsO m' oC ∧ At s0 h₀ L { s with heap := h', toks := tk } m (put μ s.heap.objs.size oC) := by
  obtain ⟨oC, ho, hx⟩ := NsO.of hns
  refine ⟨oC, hx, ⟨S.sit.grow1 (fun b o e => hsb.extBut b o (Nat.ne_of_lt (Heap.lt_size e)) (Heap.get?_push_of_some _ e)) (Nat.le_refl _) ho, S.kp⟩⟩

structure Start (w : World) (A : Around) (s0 : Anc) (h₀ : Heap) (L : Addr) (m : Str → Option Value) (s : Shared) (I : Addr) (n : Nat) (IsI : Nat → Obj → Prop) (Src : Mu → Prop) (Itm : Nat → Value → Prop) (P : Nat → List Value → Mu → Prop) : Prop where
  ir : ItR w A I n IsI Src Itm
  here : ∃ μ oI, μ I = none ∧ At s0 h₀ L s m (put μ I oI) ∧ IsI 0 oI ∧ Src μ ∧ P 0 [] μ
  n : n ≤ 100
  mono : ∀ i ys μ μ', Ext μ μ' → P i ys μ → P i ys μ'

def Turn (w : World) (A : Around) (s0 : Anc) (h₀ : Heap) (L : Addr) (m : Str → Option Value) (elt : PySem.Expr) (ifs : List PySem.Expr) (cenv : Env) (hf : Mu → Mu) (C : Addr) (n : Nat) (HoldsV : Obj → Value → Prop) (Src : Mu → Prop) (Itm : Nat → Value → Prop) (P : Nat → List Value → Mu → Prop) : Prop :=
  ∀ {i v ys μ s oC} {E' : Value → Shared → Prop}, i < n → At s0 h₀ L s m μ → Itm i v → μ C = some oC → HoldsV oC v → P i ys (hf μ) → Src (hf μ) → (∀ l o μ', μ l = none → Ext μ μ' → μ' l = some o → hf μ' l = some o) → (∀ μ, Ext (hf μ) μ) → (∀ μ μ', Ext μ μ' → Ext (hf μ) (hf μ')) →
      wpAny (model P0 w) A (forIn ifs true fun c r => if r = true then do let ok ← isTrue c cenv (eval c cenv); pure (ForInStep.yield ok) else pure (ForInStep.yield r)) (fun ok s₂ => ∃ μ₂, At s0 h₀ L s₂ m μ₂ ∧ Ext μ μ₂ ∧
        if ok = true then wpAny (model P0 w) A (eval elt cenv) (fun y s₃ => ∃ μ₃, At s0 h₀ L s₃ m μ₃ ∧ Ext μ₂ μ₃ ∧ P (i + 1) (ys ++ [y]) (hf μ₃)) E' s₂ else P (i + 1) ys (hf μ₂)) E' s
theorem hid_ext {I C D : Addr} (μ : Mu) : Ext (hid I C D μ) μ := fun a o e => (hid_some.mp e).2.2.2

theorem block_At {x : Str} {px : Pos} {elt iter : PySem.Expr} {ifs : List PySem.Expr} {scope : Scope} {cl : List (Str × Addr)} {pos : Pos} {I : Addr} {n : Nat} {IsI : Nat → Obj → Prop} {Src : Mu → Prop} {Itm : Nat → Value → Prop} {P : Nat → List Value → Mu → Prop} {RR : Value → Addr → Result → Shared → Prop}
    (B : Start w A s0 h₀ L m s I n IsI Src Itm P) (hcell : ∀ y ∈ scope.names, y.2 ≠ .cell) (hkind : scope.kind = .function) (hx : scope.names.lookup x = some .local)
    (turn : ∀ C D, Turn w A s0 h₀ L m elt ifs (compEnvC scope cl C env) (hid I C D) C n (fun o v => ∃ m₂, NsO m₂ o ∧ m₂ x = some v) Src Itm P)
    (fin : ∀ C D ys ν s' oD, C ≠ L → h₀.get? C = none → At s0 h₀ L s' m (put ν D oD) → ν D = none → ν C = none → C ≠ D → LO ys oD → P n ys ν → (∃ m₂, s'.heap.Ns C m₂) → RR (.ref D) C (.ok .next) s') :
    wpAny (model P0 w) A (newList []) (fun acc s₃ => wpAny (model P0 w) A (newFunctionEnv scope env.globals cl [] env.qual none .none (some env)) (fun cenv s₄ =>
      codeAny (model P0 w) A (.compStart (.ListComp elt [⟨.Name x px, iter, ifs, 0⟩] scope pos) 0 (.ref I) acc { cenv with scope := relabel scope env }) (RR acc cenv.locals) s₄) E s₃) E s := by
  obtain ⟨μ, oI, hI0, S, hI, src, p0⟩ := B.here
  refine wpAny_newObj_type (wpAny_newFunctionEnv hcell (by intro y hy; simp at hy) (fun h₁ hns₁ hsb₁ => ?_) hkind)
  have SD := S.sit.push emptyL
  have nD := S.sit.new_none
  have S1 : At s0 h₀ L { s with heap := s.heap.push emptyL } m _ := ⟨SD, S.kp⟩
  have nC := S1.sit.new_none
  obtain ⟨oC, hoC, S2⟩ := S1.newFn (tk := s.toks + ([] : List (Str × Value)).length) hns₁ hsb₁
  generalize hDe : s.heap.objs.size = D at *
  generalize hCe : (s.heap.push emptyL).objs.size = C at *
  have hCD : C ≠ D := fun q => by rw [q, put_self] at nC; cases nC
  have hID : I ≠ D := fun q => by rw [← q, put_self] at nD; cases nD
  have hIC : I ≠ C := fun q => by rw [← q, put_ne hID, put_self] at nC; cases nC
  have eI : put (put (put μ I oI) D emptyL) C oC I = some oI := (put_ne hIC).trans ((put_ne hID).trans put_self)
  have eD : put (put (put μ I oI) D emptyL) C oC D = some emptyL := (put_ne (Ne.symm hCD)).trans put_self
  have up : Ext μ (hid I C D (put (put (put μ I oI) D emptyL) C oC)) := fun a o e => by
    have a1 : a ≠ I := fun q => by rw [q, hI0] at e; cases e
    have a2 : a ≠ D := fun q => by rw [q] at e; rw [put_ne (Ne.symm hID), e] at nD; cases nD
    have a3 : a ≠ C := fun q => by rw [q] at e; rw [put_ne hCD, put_ne (Ne.symm hIC), e] at nC; cases nC
    exact hid_some.mpr ⟨a1, a3, a2, (put_ne a3).trans ((put_ne a2).trans ((put_ne a1).trans e))⟩
  have C0 := S2.sit.led C oC put_self
  have loop : codeAny (model P0 w) A (.compLoop (.ListComp elt [⟨.Name x px, iter, ifs, 0⟩] scope pos) 0 (.ref I) (.ref D) (compEnvC scope cl C env)) (RR (.ref D) C) { s with heap := h₁, toks := s.toks + ([] : List (Str × Value)).length } := by
    refine compLoop_At B.ir (fun o => ∃ m₂, NsO m₂ o) (fun o v => ∃ m₂, NsO m₂ o ∧ m₂ x = some v) P (fun {v s μ oC Q E} S e ⟨m₂, ho⟩ h => ?_) B.mono (fun {i v ys μ s oC E'} a b c d e f g h => turn C D a b c d e f g h hid_ext fun _ _ x => x.hid) B.n S2 eI hI put_self ⟨_, hoC⟩ eD ⟨rfl, _, rfl⟩ (B.mono _ _ _ _ up p0) (B.ir.mono up src) hIC hID hCD
      (fun {ys μ s oC oD} S eC hC eD hD p => ?_)
    · refine wpAny_assign_Name (stLoc (env := compEnvC scope cl C env) S e ho (fun s' o' S' hN => h s' o' S' ⟨_, hN⟩ ⟨_, hN, if_pos rfl⟩) (lookup_relabel_local hx) (by simp [compEnvC, relabel, hkind]))
    · refine fin C D ys (hid I C D μ) s oD C0.2.1 C0.2.2 (S.sub fun a o e => ?_) ?_ ?_ hCD hD p (let ⟨m₂, hN⟩ := hC; ⟨m₂, hN.ns (S.get eC)⟩)
      · by_cases q : a = D
        · subst q; rw [put_self] at e; cases e; exact eD
        · rw [put_ne q] at e; exact (hid_some.mp e).2.2.2
      · cases q : hid I C D μ D with
        | none => rfl
        | some o => exact absurd rfl (hid_some.mp q).2.2.1
      · cases q : hid I C D μ C with
        | none => rfl
        | some o => exact absurd rfl (hid_some.mp q).2.1
  exact codeAny_compStart_list loop (B.ir.self S2 eI hI loop)

theorem At.lose {μ : Mu} {C : Addr} {h' : Heap} (S : At s0 h₀ L s m μ) (hC : μ C = none) (hL : C ≠ L) (h0 : h₀.get? C = none) (hs : Heap.SameBut C s.heap h') : At s0 h₀ L { s with heap := h' } m μ := by
  refine ⟨⟨⟨S.fr.ns.at' fun o e => hs.extBut L o (Ne.symm hL) e, fun b o e => hs.extBut b o (fun q => by rw [q, h0] at e; cases e) (S.fr.keep b o e), S.fr.above⟩, fun a o e => ⟨hs.extBut a o (fun q => by rw [q, hC] at e; cases e) (S.get e), (S.sit.led a o e).2⟩, S.sit.low, S.sit.big⟩, S.kp⟩

abbrev cellEnv (scope : Scope) (cl : List (Str × Addr)) (x : Str) (C Cc : Addr) (env : Env) : Env :=
  { scope := relabel scope env, locals := C, globals := env.globals, cells := (x, Cc) :: cl, qual := env.qual, func := none, code := env.code, frame := env.frame, builtins := env.builtins }
def hid4 (I Cc D C : Addr) (μ : Mu) : Mu := del (hid I Cc D μ) C
theorem Ext.del {μ μ' : Mu} {C : Addr} (h : Ext μ μ') : Ext (del μ C) (del μ' C) := fun a o e => by
  by_cases q : a = C
  · subst q; unfold Mine.del at e; rw [if_pos rfl] at e; cases e
  · rw [del_ne q] at e ⊢; exact h a o e
theorem del_ext {μ : Mu} {C : Addr} : Ext (del μ C) μ := fun a o e => by
  by_cases q : a = C
  · subst q; unfold Mine.del at e; rw [if_pos rfl] at e; cases e
  · rwa [del_ne q] at e

theorem block_C {x : Str} {px : Pos} {elt iter : PySem.Expr} {ifs : List PySem.Expr} {scope : Scope} {cl : List (Str × Addr)} {pos : Pos} {I : Addr} {n : Nat} {IsI : Nat → Obj → Prop} {Src : Mu → Prop} {Itm : Nat → Value → Prop} {P : Nat → List Value → Mu → Prop} {RR : Value → Addr → Result → Shared → Prop} {f gg : Str}
    (B : Start w A s0 h₀ L m s I n IsI Src Itm P) (hnm : scope.names = [((".0" : Str), .local), (x, .cell), (gg, .globalImplicit), (f, .free)]) (hkind : scope.kind = .function) (hkx : (relabel scope env).names.lookup x = some .cell)
    (turn : ∀ C Cc D, Turn w A s0 h₀ L m elt ifs (cellEnv scope cl x C Cc env) (hid4 I Cc D C) Cc n (fun o v => CellO (some v) o) Src Itm P)
    (fin : ∀ C D ys ν s' oD, C ≠ L → h₀.get? C = none → At s0 h₀ L s' m (put ν D oD) → ν D = none → ν C = none → C ≠ D → LO ys oD → P n ys ν → (∃ m₂, s'.heap.Ns C m₂) → RR (.ref D) C (.ok .next) s') :
    wpAny (model P0 w) A (newList []) (fun acc s₃ => wpAny (model P0 w) A (newFunctionEnv scope env.globals cl [] env.qual none .none (some env)) (fun cenv s₄ =>
      codeAny (model P0 w) A (.compStart (.ListComp elt [⟨.Name x px, iter, ifs, 0⟩] scope pos) 0 (.ref I) acc { cenv with scope := relabel scope env }) (RR acc cenv.locals) s₄) E s₃) E s := by
  obtain ⟨μ, oI, hI0, S, hI, src, p0⟩ := B.here
  refine wpAny_newObj_type ?_
  unfold newFunctionEnv
  refine wpAny_bind (wpAny_alloc ?_)
  refine wpAny_bind (wpAny_layCells _ (fun name kind cells => by cases hkc : kind == NameKind.cell <;> simp [hkc]) _ _ _ _ ?_)
  have hcf : ∀ (nn : Addr) (acc : List (Str × Addr)), cellsFrom nn scope.names acc = (x, nn) :: acc := fun nn acc => by rw [hnm]; rfl
  have hpc : ∀ g : Heap, pushCells g scope.names = g.push { cls := .type "cell", data := .cell none } := fun g => by rw [hnm]; rfl
  rw [hcf, hpc]
  have nD := S.sit.new_none
  have S1 : At s0 h₀ L { s with heap := s.heap.push emptyL } m _ := ⟨S.sit.push emptyL, S.kp⟩
  have nC := S1.sit.new_none
  have S2 : At s0 h₀ L { s with heap := (s.heap.push emptyL).push { cls := .type "dict", data := .dict #[] } } m _ := ⟨S1.sit.push { cls := .type "dict", data := .dict #[] }, S1.kp⟩
  have nCc := S2.sit.new_none
  have S3 : At s0 h₀ L { s with heap := ((s.heap.push emptyL).push { cls := .type "dict", data := .dict #[] }).push { cls := .type "cell", data := .cell none } } m _ := ⟨S2.sit.push { cls := .type "cell", data := .cell none }, S2.kp⟩
  refine wpAny_bind (wpAny_pure (wpAny_pure ?_))
  dsimp only at nC nCc S1 S2 S3 ⊢
  generalize hCce : ((s.heap.push emptyL).push { cls := .type "dict", data := .dict #[] } : Heap).objs.size = Cc at *
  generalize hCe : (s.heap.push emptyL).objs.size = C at *
  generalize hDe : s.heap.objs.size = D at *
  have hCD : C ≠ D := fun q => by rw [q, put_self] at nC; cases nC
  have hID : I ≠ D := fun q => by rw [← q, put_self] at nD; cases nD
  have hIC : I ≠ C := fun q => by rw [← q, put_ne hID, put_self] at nC; cases nC
  have hcC : Cc ≠ C := fun q => by rw [q, put_self] at nCc; cases nCc
  have hcD : Cc ≠ D := fun q => by rw [q, put_ne (Ne.symm hCD), put_self] at nCc; cases nCc
  have hIc : I ≠ Cc := fun q => by rw [← q, put_ne hIC, put_ne hID, put_self] at nCc; cases nCc
  have C0 := S3.sit.led C _ ((put_ne (Ne.symm hcC)).trans put_self)
  generalize hμ3 : put (put (put (put μ I oI) D emptyL) C { cls := .type "dict", data := .dict #[] }) Cc ({ cls := .type "cell", data := .cell none } : Obj) = μ3 at *
  have eI : μ3 I = some oI := by rw [← hμ3]; exact (put_ne hIc).trans ((put_ne hIC).trans ((put_ne hID).trans put_self))
  have eD : μ3 D = some emptyL := by rw [← hμ3]; exact (put_ne (Ne.symm hcD)).trans ((put_ne (Ne.symm hCD)).trans put_self)
  have eC : μ3 C = some { cls := .type "dict", data := .dict #[] } := by rw [← hμ3]; exact (put_ne (Ne.symm hcC)).trans put_self
  have eCc : μ3 Cc = some { cls := .type "cell", data := .cell none } := by rw [← hμ3]; exact put_self
  have hNC : NsO (fun _ => none) ({ cls := .type "dict", data := .dict #[] } : Obj) := ⟨#[], 0, rfl, by intro e he; simp at he, fun _ => rfl⟩
  have up : Ext μ (hid4 I Cc D C μ3) := fun a o e => by
    have a1 : a ≠ I := fun q => by rw [q, hI0] at e; cases e
    have a2 : a ≠ D := fun q => by rw [q] at e; rw [put_ne (Ne.symm hID), e] at nD; cases nD
    have a3 : a ≠ C := fun q => by rw [q] at e; rw [put_ne hCD, put_ne (Ne.symm hIC), e] at nC; cases nC
    have a4 : a ≠ Cc := fun q => by rw [q] at e; rw [put_ne hcC, put_ne hcD, put_ne (Ne.symm hIc), e] at nCc; cases nCc
    unfold hid4
    rw [del_ne a3]
    refine hid_some.mpr ⟨a1, a4, a2, ?_⟩
    rw [← hμ3]
    exact (put_ne a4).trans ((put_ne a3).trans ((put_ne a2).trans ((put_ne a1).trans e)))
  have loop : codeAny (model P0 w) A (.compLoop (.ListComp elt [⟨.Name x px, iter, ifs, 0⟩] scope pos) 0 (.ref I) (.ref D) (cellEnv scope cl x C Cc env)) (RR (.ref D) C)
      { s with heap := ((s.heap.push emptyL).push { cls := .type "dict", data := .dict #[] }).push { cls := .type "cell", data := .cell none } } := by
    have IR' : ItR w A I n IsI (fun μ => Src (del μ C)) Itm := ⟨fun hi S e hI src h => B.ir.item hi S e hI (B.ir.mono del_ext src) h, fun S e hI src h => B.ir.done S e hI (B.ir.mono del_ext src) h, B.ir.self, fun x src => B.ir.mono x.del src⟩
    have iC : ∀ {μ : Mu} {o : Obj}, μ C = some o → hid I Cc D μ C = some o := fun e => hid_some.mpr ⟨Ne.symm hIC, Ne.symm hcC, hCD, e⟩
    refine compLoop_At IR' (fun o => ∃ v₀, CellO v₀ o) (fun o v => CellO (some v) o) (fun i ys μ => P i ys (del μ C) ∧ μ C = some { cls := .type "dict", data := .dict #[] }) (fun {v s μ oC Q E} S e ⟨v₀, ho⟩ h => ?_) (fun i ys μ μ' x p => ⟨B.mono _ _ _ _ x.del p.1, x _ _ p.2⟩)
      (fun {i v ys μ s oC E'} a b c d e p src hn => ?_) B.n S3 eI hI eCc ⟨_, rfl⟩ eD ⟨rfl, _, rfl⟩ ⟨B.mono _ _ _ _ up p0, iC eC⟩ (B.ir.mono up src) hIc hID hcD (fun {ys μ s oC oD} S eC' hC' eD' hD' p => ?_)
    · exact wpAny_assign_Name (stCell (env := cellEnv scope cl x C Cc env) S e ho (fun s' o' S' hN => h s' o' S' ⟨_, hN⟩ hN) hkind hkx (by simp))
    · have pC := p.2
      refine wpAny_mono (turn C Cc D a b c d e p.1 src (fun l o μ' hl hx he => ?_) (fun μ => del_ext.trans (hid_ext μ)) (fun _ _ x => x.hid.del)) (fun ok s2 h2 => ?_) fun _ _ z => z
      · have hlC : l ≠ C := fun q => by rw [q, (hid_some.mp pC).2.2.2] at hl; cases hl
        unfold hid4; rw [del_ne hlC]; exact hn l o μ' hl hx he
      · obtain ⟨μ₂, S2, x2, h2⟩ := h2
        refine ⟨μ₂, S2, x2, ?_⟩
        cases ok with
        | true =>
          simp only [if_true] at h2 ⊢
          refine wpAny_mono h2 (fun y s3 h3 => ?_) fun _ _ z => z
          obtain ⟨μ₃, S3, x3, p3⟩ := h3
          exact ⟨μ₃, S3, x3, p3, (x2.trans x3).hid _ _ pC⟩
        | false =>
          simp only [Bool.false_eq_true, if_false] at h2 ⊢
          exact ⟨h2, x2.hid _ _ pC⟩
    · refine fin C D ys (hid4 I Cc D C μ) s oD C0.2.1 C0.2.2 (S.sub fun a o e => ?_) ?_ ?_ hCD hD' p.1 ⟨_, hNC.ns (S.get (hid_some.mp p.2).2.2.2)⟩
      · by_cases q : a = D
        · subst q; rw [put_self] at e; cases e; exact eD'
        · rw [put_ne q] at e; exact (hid_some.mp (del_ext _ _ e)).2.2.2
      · cases q : hid4 I Cc D C μ D with
        | none => rfl
        | some o => exact absurd rfl (hid_some.mp (del_ext _ _ q)).2.2.1
      · unfold hid4 Mine.del; rw [if_pos rfl]
  subst hCce
  exact codeAny_compStart_list loop (B.ir.self S3 eI hI loop)
theorem compXC {x : Str} {px : Pos} {elt iter : PySem.Expr} {ifs : List PySem.Expr} {scope : Scope} {cl : List (Str × Addr)} {pos : Pos} {Q : Value → Shared → Prop} {f gg : Str}
    (hclos : closureFor scope env = pure cl) (hnm : scope.names = [((".0" : Str), .local), (x, .cell), (gg, .globalImplicit), (f, .free)]) (hkind : scope.kind = .function) (hkx : (relabel scope env).names.lookup x = some .cell)
    (hnames : ∀ y ∈ scope.names, y.2 = .local → scope.names.lookup y.1 = some .local)
    (h : wpAny (model P0 w) A (eval iter env) (fun xv s₁ => wpAny (model P0 w) A (pyIter xv) (fun it s₂ => ∃ I n IsI Src Itm P, it = .ref I ∧ Start w A s0 h₀ L m s₂ I n IsI Src Itm P ∧
      (∀ C Cc D, Turn w A s0 h₀ L m elt ifs (cellEnv scope cl x C Cc env) (hid4 I Cc D C) Cc n (fun o v => CellO (some v) o) Src Itm P) ∧
      (∀ D ys ν s' oD, At s0 h₀ L s' m (put ν D oD) → ν D = none → LO ys oD → P n ys ν → Q (.ref D) s')) E s₁) E s)
    (hs : ∀ x, foldedSetIterable iter env x = pure x := by intro _; rfl) :
    wpAny (model P0 w) A (eval (.ListComp elt [⟨.Name x px, iter, ifs, 0⟩] scope pos) env) Q E s := by
  rw [eval_ListComp]
  refine wpAny_comprehension_free (use := none) rfl hs hclos hkind hnames (wpAny_mono h (fun xv s₁ h₁ => wpAny_mono h₁ (fun it s₂ h₂ => ?_) fun _ _ e => e) fun _ _ e => e)
  obtain ⟨I, n, IsI, Src, Itm, P, rfl, B, turn, fin⟩ := h₂
  refine block_C (RR := fun acc C => compPost (model P0 w) A E none Q acc C) B hnm hkind hkx turn (fun C D ys ν s' oD hCL hC0 S hD hC hCD hLO p hN => ?_)
  obtain ⟨m₂, hN⟩ := hN
  refine ⟨m₂, hN, fun h'' hs'' => fin D ys ν _ oD (S.lose ((put_ne hCD).trans hC) hCL hC0 hs'') hD hLO p⟩
theorem compX {x : Str} {px : Pos} {elt iter : PySem.Expr} {ifs : List PySem.Expr} {scope : Scope} {cl : List (Str × Addr)} {pos : Pos} {Q : Value → Shared → Prop}
    (hclos : closureFor scope env = pure cl) (hcell : ∀ y ∈ scope.names, y.2 ≠ .cell) (hkind : scope.kind = .function)
    (hnames : ∀ y ∈ scope.names, y.2 = .local → scope.names.lookup y.1 = some .local) (hx : scope.names.lookup x = some .local)
    (h : wpAny (model P0 w) A (eval iter env) (fun xv s₁ => wpAny (model P0 w) A (pyIter xv) (fun it s₂ => ∃ I n IsI Src Itm P, it = .ref I ∧ Start w A s0 h₀ L m s₂ I n IsI Src Itm P ∧
      (∀ C D, Turn w A s0 h₀ L m elt ifs (compEnvC scope cl C env) (hid I C D) C n (fun o v => ∃ m₂, NsO m₂ o ∧ m₂ x = some v) Src Itm P) ∧
      (∀ D ys ν s' oD, At s0 h₀ L s' m (put ν D oD) → ν D = none → LO ys oD → P n ys ν → Q (.ref D) s')) E s₁) E s)
    (hs : ∀ x, foldedSetIterable iter env x = pure x := by intro _; rfl) :
    wpAny (model P0 w) A (eval (.ListComp elt [⟨.Name x px, iter, ifs, 0⟩] scope pos) env) Q E s := by
  rw [eval_ListComp]
  refine wpAny_comprehension_free (use := none) rfl hs hclos hkind hnames (wpAny_mono h (fun xv s₁ h₁ => wpAny_mono h₁ (fun it s₂ h₂ => ?_) fun _ _ e => e) fun _ _ e => e)
  obtain ⟨I, n, IsI, Src, Itm, P, rfl, B, turn, fin⟩ := h₂
  refine block_At (RR := fun acc C => compPost (model P0 w) A E none Q acc C) B hcell hkind hx turn (fun C D ys ν s' oD hCL hC0 S hD hC hCD hLO p hN => ?_)
  obtain ⟨m₂, hN⟩ := hN
  refine ⟨m₂, hN, fun h'' hs'' => fin D ys ν _ oD (S.lose ((put_ne hCD).trans hC) hCL hC0 hs'') hD hLO p⟩
theorem compA {x y : Str} {px py : Pos} {elt iter : PySem.Expr} {ifs : List PySem.Expr} {scope : Scope} {cl : List (Str × Addr)} {pos spos : Pos} {Q : Flow → Shared → Prop} (hL : env.locals = L)
    (hsw : swapsWith (.ListComp elt [⟨.Name x px, iter, ifs, 0⟩] scope pos) (some (.Name y py)) spos.line env = pure true)
    (hclos : closureFor scope env = pure cl) (hcell : ∀ y ∈ scope.names, y.2 ≠ .cell) (hkind : scope.kind = .function)
    (hnames : ∀ y ∈ scope.names, y.2 = .local → scope.names.lookup y.1 = some .local) (hx : scope.names.lookup x = some .local)
    (hy : env.kindOf y = some .local) (hp : (env.scope.kind == .class || (env.scope.kind == .module && env.locals != env.globals)) = false)
    (h : wpAny (model P0 w) A (eval iter env) (fun xv s₁ => wpAny (model P0 w) A (pyIter xv) (fun it s₂ => ∃ I n IsI Src Itm P, it = .ref I ∧ Start w A s0 h₀ L m s₂ I n IsI Src Itm P ∧
      (∀ C D, Turn w A s0 h₀ L m elt ifs (compEnvC scope cl C env) (hid I C D) C n (fun o v => ∃ m₂, NsO m₂ o ∧ m₂ x = some v) Src Itm P) ∧
      (∀ D ys ν s' oD, At s0 h₀ L s' (fun z => if z = y then some (.ref D) else m z) (put ν D oD) → ν D = none → LO ys oD → P n ys ν → Q .next s')) E s₁) E s)
    (hs : ∀ x, foldedSetIterable iter env x = pure x := by intro _; rfl) :
    wpAny (model P0 w) A (exec (.Assign [.Name y py] (.ListComp elt [⟨.Name x px, iter, ifs, 0⟩] scope pos) spos) env) Q E s := by
  rw [exec_Assign_Name_used _ _ _ _ hsw]
  refine wpAny_bind (wpAny_standAt (wpAny_bind ?_))
  show wpAny _ A (do let _ ← comprehension (.ListComp elt [⟨.Name x px, iter, ifs, 0⟩] scope pos) scope env _ (newList []) false (eval iter env) (some (assign (.Name y py) env))) _ _ s
  refine wpAny_bind (wpAny_mono (wpAny_comprehension_free (use := some (assign (.Name y py) env)) (Q := fun _ s' => Q .next s') rfl hs hclos hkind hnames
    (wpAny_mono h (fun xv s₁ h₁ => wpAny_mono h₁ (fun it s₂ h₂ => ?_) fun _ _ e => e) fun _ _ e => e)) (fun _ s' hq => wpAny_pure (wpAny_pure hq)) fun _ _ e => e)
  obtain ⟨I, n, IsI, Src, Itm, P, rfl, B, turn, fin⟩ := h₂
  refine block_At (RR := fun acc C => compPost (model P0 w) A E (some (assign (.Name y py) env)) (fun _ s' => Q .next s') acc C) B hcell hkind hx turn (fun C D ys ν s' oD hCL hC0 S hD hC hCD hLO p hN => ?_)
  obtain ⟨m₂, hN⟩ := hN
  show wpAny _ A (assign (.Name y py) env (.ref D)) _ _ _
  subst hL
  refine wpAny_assign_Name (wpAny_storeName_local hy S.fr.ns (fun h₂ hn₂ hs₂ => ?_) hp)
  have S2 : At s0 h₀ env.locals { s' with heap := h₂, toks := s'.toks + 1 } _ (put ν D oD) := S.heap (S.sit.loc hn₂ hs₂) _
  exact ⟨m₂, hN.at' fun o e => hs₂.extBut C o hCL e, fun h'' hs'' => fin D ys ν _ oD (S2.lose ((put_ne hCD).trans hC) hCL hC0 hs'') hD hLO p⟩
end
end Mine
end
section -- Merge
open PySem PySem.W PySem.Calls PyProof.Rows PyProof.V PySem.Spec
set_option maxRecDepth 100000
set_option linter.unusedVariables false
namespace Mine
section
variable {w : World} {KK : Type} [DecidableEq KK] {knd : KeyKind P0 w KK} {A : Around} {E : Value → Shared → Prop} {s : Shared}

theorem dictPut_ {d : Addr} {kvs : List (KK × Value)} {k : KK} {key v : Value} {Q : Unit → Shared → Prop} (hkey : knd.is k key = true) (hm : s.heap.DictOf knd d kvs)
    (hQ : ∀ h', h'.DictOf knd d (stored kvs k v) → Heap.SameBut d s.heap h' → Q () { s with heap := h' }) (hsz : kvs.length ≤ sizeLine) :
    wpAny (model P0 w) A (dictPut d (knd.hash k) key v) Q E s := by
  obtain ⟨o, es, ep, ho, hc, hd, hk, hp, hn⟩ := hm
  have hes : es.size ≤ sizeLine := by have e1 := hp.length; have e2 : es.toList.length = es.size := by simp
                                      omega
  unfold dictPut
  refine wpAny_bind (wpAny_dictFind_of hkey ho hd hk ?_)
  have hidx : (es.findIdx? fun e => knd.is k e.key) = kvs.findIdx? fun kv => decide (kv.1 = k) := by
    rw [← hp.findIdx k]; obtain ⟨l⟩ := es; simp
  cases hi : es.findIdx? fun e => knd.is k e.key with
  | some i =>
    refine wpAny_updateDict ho hd (hQ _ ⟨_, _, ep, Heap.get?_update_self _ ho (Obj.isFreed_of_dict (Obj.data_mapDict hd _)), hc.mapDict _, Obj.data_mapDict hd _, hk.modify _ _, ?_, ?_⟩ (Heap.SameBut.update ..))
    · rw [stored, if_pos (any_of_findIdx_some (hidx ▸ hi))]
      have hl : (es.toList.findIdx? fun e => knd.is k e.key) = some i := by rw [← hi]; obtain ⟨l⟩ := es; simp
      have := hp.modify hn hl v
      obtain ⟨l⟩ := es
      simpa using this
    · rw [stored, if_pos (any_of_findIdx_some (hidx ▸ hi)), keys_map_store]; exact hn
  | none =>
    have hnot : k ∉ kvs.map (·.1) := not_mem_of_findIdx_none (hidx ▸ hi)
    have hany : ¬ (kvs.any fun kv => decide (kv.1 = k)) = true := by
      rw [List.any_eq_true]; rintro ⟨kv, hkv, he⟩
      exact hnot (List.mem_map.mpr ⟨kv, hkv, of_decide_eq_true he⟩)
    refine wpAny_updateDictKeys (hz := hes) ho hd (hQ _ ⟨_, _, ep + 1, Heap.get?_update_self _ ho (Obj.isFreed_of_dict (Obj.data_mapDictKeys hd _)), hc.mapDictKeys _, Obj.data_mapDictKeys hd _, hk.push hkey _, ?_, ?_⟩ (Heap.SameBut.update ..))
    · rw [stored, if_neg hany]
      have := hp.append hkey (knd.hash k) v
      obtain ⟨l⟩ := es
      simpa using this
    · rw [stored, if_neg hany, List.map_append, List.nodup_append]
      refine ⟨hn, by simp, ?_⟩
      intro a ha b hb
      simp only [List.map_cons, List.map_nil, List.mem_singleton] at hb
      subst hb
      exact fun e => hnot (e ▸ ha)

theorem dictFind_none {d : Addr} {kvs : List (KK × Value)} {k : KK} {key : Value} {Q : Option Nat → Shared → Prop} (hkey : knd.is k key = true) (hm : s.heap.DictOf knd d kvs) (hk : k ∉ kvs.map (·.1)) (h : Q none s) :
    wpAny (model P0 w) A (dictFind d key (knd.hash k)) Q E s := by
  obtain ⟨o, es, ep, ho, hc, hd, hks, hp, hn⟩ := hm
  refine wpAny_dictFind_of hkey ho hd hks ?_
  have hidx : (es.findIdx? fun e => knd.is k e.key) = kvs.findIdx? fun kv => decide (kv.1 = k) := by
    rw [← hp.findIdx k]; obtain ⟨l⟩ := es; simp
  cases hi : es.findIdx? fun e => knd.is k e.key with
  | none => exact h
  | some i =>
    have := any_of_findIdx_some (hidx ▸ hi)
    obtain ⟨x, hx, e⟩ := List.any_eq_true.mp this
    exact absurd (List.mem_map.mpr ⟨x, hx, of_decide_eq_true e⟩) hk
theorem merged_keys {kvs more : List (KK × Value)} {k : KK} (h : k ∈ (merged kvs more).map (·.1)) : k ∈ kvs.map (·.1) ∨ k ∈ more.map (·.1) := by
  induction more generalizing kvs with
  | nil => exact .inl h
  | cons a l ih =>
    rcases ih (kvs := stored kvs a.1 a.2) h with q | q
    · rw [stored_keys] at q
      split at q
      · exact .inl q
      · rcases List.mem_append.mp q with q | q
        · exact .inl q
        · cases List.mem_singleton.mp q; exact .inr (.head _)
    · exact .inr (.tail _ q)

theorem mergeMap_ {d a : Addr} {kvs more : List (KK × Value)} {unique : Bool} {Q : Unit → Shared → Prop} (hda : d ≠ a) (hlow : (a == sysModules) = false) (hnoref : ∀ k v, knd.is k v = true → ∀ x, v ≠ .ref x)
    (hd : s.heap.DictOf knd d kvs) (ha : s.heap.DictOf knd a more) (hu : unique = false ∨ ∀ k ∈ more.map (·.1), k ∉ kvs.map (·.1))
    (hQ : ∀ h', h'.DictOf knd d (merged kvs more) → Heap.SameBut d s.heap h' → Q () { s with heap := h' }) (hsz : kvs.length + more.length ≤ sizeLine) :
    wpAny (model P0 w) A (mergeMapping d (.ref a) unique) Q E s := by
  obtain ⟨od, esd, epd, hod, hcd, hdd, hkd, hpd, hnd⟩ := id hd
  obtain ⟨oo, eso, epo, hoo, hco, hdo', hko, hpo, hno⟩ := id ha
  have hlen : more.length = eso.size := by rw [← hpo.length]; simp
  unfold mergeMapping
  refine wpAny_bind (wpAny_isInstance ha.typeIs isSubtype_dict_dict ?_)
  simp only [if_true]
  refine wpAny_bind (wpAny_specialOf ha.typeIs PySem.F.slot_dict_iter.lookup ?_)
  show wpAny _ _ (if (a == sysModules) = true then _ else _) _ _ s
  rw [if_neg (by rw [hlow]; simp)]
  refine wpAny_bind (wpAny_dictEntries hod hdd ?_)
  have loop : wpAny (model P0 w) A (do
      let l ← dictEntries a
      let epoch ← dictEpoch a
      forIn (List.range l.size) PUnit.unit fun i (_ : PUnit) => (do
          let l' ← dictEntries a
          match l'[i]? with
            | some e => do
              holding [e.key, e.val] (if unique = true then do
                  let r ← dictFind d e.key e.hash
                  if r.isSome = true then do
                      rule "dict.merge.duplicate-key"
                      let x ← newExc (Value.type "KeyError") [e.key]
                      let _ ← (raiseNew x : Sem PUnit)
                      dictPut d e.hash e.key e.val
                    else dictPut d e.hash e.key e.val
                else dictPut d e.hash e.key e.val)
              let ep' ← dictEpoch a
              if (ep' != epoch) = true then do
                  (unsupported "dict.changed-during-merge" : Sem PUnit)
                  pure (ForInStep.yield PUnit.unit)
                else pure (ForInStep.yield PUnit.unit)
            | _ => do
              (unsupported "dict.changed-during-merge" : Sem PUnit)
              pure (ForInStep.yield PUnit.unit) : Sem (ForInStep PUnit))
      pure ()) Q E s := by
    refine wpAny_bind (wpAny_dictEntries hoo hdo' ?_)
    refine wpAny_bind (wpAny_dictEpoch hoo hdo' ?_)
    refine wpAny_bind ?_
    rw [List.range_eq_range']
    refine wpAny_forIn_list _
      (fun rest _ s' => ∃ h' i, s' = { s with heap := h' } ∧ rest = List.range' i (eso.size - i) ∧ i ≤ eso.size ∧ h'.DictOf knd d (merged kvs (more.take i)) ∧ h'.get? a = some oo ∧ Heap.SameBut d s.heap h')
      _ ?_ ?_ _ _ ⟨s.heap, 0, rfl, by simp, Nat.zero_le _, by simpa [merged] using hd, hoo, Heap.SameBut.refl _ _⟩
    · rintro x rest b s' ⟨h', i, rfl, hr, hi, hd', hoo', hs'⟩
      have hlt : i < eso.size := by
        rcases Nat.lt_or_ge i eso.size with h | h
        · exact h
        · rw [Nat.sub_eq_zero_of_le h] at hr; simp at hr
      obtain ⟨rfl, hrest⟩ : x = i ∧ rest = List.range' (i + 1) (eso.size - (i + 1)) := by
        have e : eso.size - i = (eso.size - (i + 1)) + 1 := by omega
        rw [e, List.range'_succ] at hr
        injection hr with h1 h2
        exact ⟨h1, h2⟩
      refine wpAny_bind (wpAny_dictEntries hoo' hdo' ?_)
      rw [Array.getElem?_eq_getElem hlt]
      obtain ⟨kv, hkv⟩ : ∃ kv, more[x]? = some kv := ⟨more[x]'(by rw [hlen]; exact hlt), List.getElem?_eq_getElem _⟩
      obtain ⟨k, v⟩ := kv
      obtain ⟨hkey, hval⟩ := hpo.get? (e := eso[x]) (by simp [hlt]) hkv
      obtain ⟨k', hkey', hhash⟩ := hko eso[x] (Array.getElem_mem hlt)
      obtain rfl : k' = k := knd.inj _ _ _ hkey' hkey
      have hmx : (merged kvs (more.take x)).length ≤ sizeLine := by
        have e1 := merged_length_le kvs (more.take x)
        have e2 : (more.take x).length ≤ more.length := by rw [List.length_take]; omega
        omega
      have hnin : unique = true → k' ∉ (merged kvs (more.take x)).map (·.1) := fun hun hm => by
        have hkm : k' ∈ more.map (·.1) := List.mem_map.mpr ⟨_, List.mem_of_getElem? hkv, rfl⟩
        rcases merged_keys hm with q | q
        · rcases hu with hu | hu
          · rw [hun] at hu; cases hu
          · exact hu k' hkm q
        · have h1 : ((more.take (x + 1)).map (·.1)).Nodup := hno.sublist ((List.take_sublist _ _).map _)
          rw [List.take_add_one, hkv, List.map_append] at h1
          exact (List.nodup_append.mp h1).2.2 k' q k' (by simp) rfl
      have put_ : wpAny (model P0 w) A (dictPut d eso[x].hash eso[x].key eso[x].val) (fun _ s' => ∃ h'', s' = { s with heap := h'' } ∧ h''.DictOf knd d (merged kvs (more.take (x + 1))) ∧ h''.get? a = some oo ∧ Heap.SameBut d s.heap h'') E { s with heap := h' } := by
        rw [hhash, hval]
        refine dictPut_ hkey hd' (fun h'' hd'' hs'' => ⟨h'', rfl, by rw [merged_take_succ kvs more x (k', v) hkv]; exact hd'', (hs''.2 a (Ne.symm hda)).trans hoo', hs'.trans hs''⟩) hmx
      refine wpAny_bind (wpAny_holding (wpAny_mono (?_ : wpAny (model P0 w) A _ (fun _ s' => ∃ h'', s' = { s with heap := h'' } ∧ h''.DictOf knd d (merged kvs (more.take (x + 1))) ∧ h''.get? a = some oo ∧ Heap.SameBut d s.heap h'') E _) (fun _ s'' h => ?_) fun _ _ z => z))
      · split
        · rename_i hun
          have := hnin hun
          rw [hhash]
          refine wpAny_bind (dictFind_none hkey hd' this ?_)
          simp only [Option.isSome_none, Bool.false_eq_true, if_false]
          rw [← hhash]
          exact put_
        · exact put_
      · obtain ⟨h'', rfl, hd'', hoo'', hs''⟩ := h
        refine wpAny_bind (wpAny_dictEpoch hoo'' hdo' ?_)
        rw [if_neg (by simp)]
        exact wpAny_pure ⟨h'', x + 1, rfl, hrest, hlt, hd'', hoo'', hs''⟩
    · rintro b s' ⟨h', i, rfl, hr, hi, hd', hoo', hs'⟩
      have hin : i = eso.size := by
        rcases Nat.lt_or_ge i eso.size with h | h
        · have e : eso.size - i = (eso.size - (i + 1)) + 1 := by omega
          rw [e, List.range'_succ] at hr; exact nomatch hr
        · exact Nat.le_antisymm hi h
      refine wpAny_pure (hQ h' ?_ hs')
      rw [hin, ← hlen, List.take_length] at hd'; exact hd'
  split
  · refine wpAny_bind (wpAny_dictEntries hoo hdo' ?_)
    refine wpAny_bind ?_
    rw [← Array.forIn_toList]
    refine wpAny_forIn_list _ (fun rest _ s' => s' = s ∧ ∀ e ∈ rest, e ∈ eso) _ ?_ ?_ _ _ ⟨rfl, fun e he => by simpa using he⟩
    · rintro e rest b s' ⟨rfl, hm⟩
      obtain ⟨k, hkey, _⟩ := hko e (hm e (.head _))
      have := hnoref k e.key hkey
      have hr : ∀ e ∈ rest, e ∈ eso := fun y hy => hm y (.tail _ hy)
      split
      · rename_i x hx
        exact absurd hx (this x)
      · exact wpAny_pure ⟨rfl, hr⟩
    · rintro b s' ⟨rfl, _⟩
      exact loop
  · exact loop
end
end Mine
end
section -- Disp
open PySem PySem.W PySem.Calls PyProof.Rows PyProof.V PySem.Spec
set_option maxRecDepth 100000
set_option linter.unusedVariables false
namespace Mine
section
variable {w : World} {A : Around} {s0 : Anc} {h₀ : Heap} {L : Addr} {m : Str → Option Value} {μ : Mu} {s : Shared} {env : Env} {E : Value → Shared → Prop}

theorem mergeAt {KK : Type} [DecidableEq KK] {knd : KeyKind P0 w KK} {d a : Addr} {od oa : Obj} {kvs more : List (KK × Value)} {unique : Bool} {Q : Unit → Shared → Prop} (S : At s0 h₀ L s m μ) (ed : μ d = some od) (hd : od.IsDictOf knd kvs) (ea : μ a = some oa) (ha : oa.IsDictOf knd more) (hda : d ≠ a)
    (hnoref : ∀ k v, knd.is k v = true → ∀ x, v ≠ .ref x) (hu : unique = false ∨ ∀ k ∈ more.map (·.1), k ∉ kvs.map (·.1)) (hsz : kvs.length + more.length ≤ sizeLine)
    (h : ∀ s' o', At s0 h₀ L s' m (put μ d o') → o'.IsDictOf knd (merged kvs more) → Q () s') : wpAny (model P0 w) A (mergeMapping d (.ref a) unique) Q E s :=
  mergeMap_ hda (S.low ea) hnoref (S.dict ed hd) (S.dict ea ha) hu (fun h' hm hs => by
    obtain ⟨o', ho', hd'⟩ := Heap.dictOf_iff.mp hm
    exact h _ o' (S.heap (S.sit.upd ed hs ho') _) hd') hsz
theorem int_noref {k : Int} {v : Value} (h : (ik w).is k v = true) (x : Addr) : v ≠ .ref x := by
  obtain ⟨t, rfl⟩ := isInt_of h
  intro q; cases q

def ExtL (μ μ' : Mu) : Prop := ∀ a o, μ a = some o → o.cls = .type "list" → μ' a = some o
theorem dictSetAt {KK : Type} [DecidableEq KK] {knd : KeyKind P0 w KK} {d : Addr} {od : Obj} {kvs : List (KK × Value)} {k : KK} {key v : Value} {Q : Unit → Shared → Prop} (S : At s0 h₀ L s m μ) (ed : μ d = some od) (hd : od.IsDictOf knd kvs) (hkey : knd.is k key = true) (hsz : kvs.length ≤ sizeLine)
    (h : ∀ s' o', At s0 h₀ L s' m (put μ d o') → o'.IsDictOf knd (stored kvs k v) → Q () s') : wpAny (model P0 w) A (dictSet d key v) Q E s := by
  unfold dictSet
  refine wpAny_holding (wpAny_bind (knd.pyHash hkey (wpAny_dictSetHashed_pairs (hsz := hsz) hkey (S.dict ed hd) fun h' hm hs => ?_)))
  obtain ⟨o', ho', hd'⟩ := Heap.dictOf_iff.mp hm
  exact h _ o' (S.heap (S.sit.upd ed hs ho') _) hd'
theorem dispStar {e1 e2 e3 : PySem.Expr} {pos : Pos} {t : Addr} {k : Int} {tk : Tok} {kvs : List (Int × Value)} {ot : Obj} {Q : Value → Shared → Prop} (Good : Value → Mu → Prop) (hG : ∀ v μ μ', ExtL μ μ' → Good v μ → Good v μ')
    (S : At s0 h₀ L s m μ) (et : μ t = some ot) (ht : ot.IsDictOf (ik w) kvs) (hsz : kvs.length ≤ 50)
    (h1 : ∀ {μ1 s1} {Q : Value → Shared → Prop} {E : Value → Shared → Prop}, Ext μ μ1 → At s0 h₀ L s1 m μ1 → Q (.ref t) s1 → wpAny (model P0 w) A (eval e1 env) Q E s1)
    (h2 : ∀ {μ1 s1} {Q : Value → Shared → Prop} {E : Value → Shared → Prop}, Ext μ μ1 → At s0 h₀ L s1 m μ1 → Q (.int k tk) s1 → wpAny (model P0 w) A (eval e2 env) Q E s1)
    (h3 : ∀ {μ1 s1} {Q : Value → Shared → Prop} {E : Value → Shared → Prop}, Ext μ μ1 → At s0 h₀ L s1 m μ1 → (∀ μ2 s2 v, Ext μ1 μ2 → At s0 h₀ L s2 m μ2 → Good v μ2 → Q v s2) → wpAny (model P0 w) A (eval e3 env) Q E s1)
    (h : ∀ d o μ' s' v, Ext μ μ' → μ' d = some o → μ d = none → o.IsDictOf (ik w) (stored kvs k v) → Good v μ' → At s0 h₀ L s' m μ' → Q (.ref d) s') :
    wpAny (model P0 w) A (eval (.Dict [none, some e2] [e1, e3] pos) env) Q E s := by
  rw [arm_eval_Dict]
  refine wpAny_bind (wpAny_standAt ?_)
  show wpAny _ _ (dictDisplay [(none, do let x ← eval e1 env; standAt pos; pure x), (some (eval e2 env), do let x ← eval e3 env; standAt pos; pure x)]) Q E s
  unfold dictDisplay
  simp only [List.forIn_cons, List.forIn_nil]
  refine wpAny_bind (wpAny_bind ?_)
  simp only [List.isEmpty_nil, if_true, pure_bind]
  refine wpAny_bind (wpAny_alloc ?_)
  have nD := S.sit.new_none
  have S1 : At s0 h₀ L { s with heap := s.heap.push { cls := .type "dict", data := .dict #[] } } m (put μ s.heap.objs.size { cls := .type "dict", data := .dict #[] }) := ⟨S.sit.push _, S.kp⟩
  have he : ({ cls := .type "dict", data := .dict #[] } : Obj).IsDictOf (ik w) [] := ⟨#[], 0, ⟨rfl, rfl, rfl⟩, rfl, fun _ he => by simp at he, .nil, List.nodup_nil⟩
  generalize s.heap.objs.size = d at *
  have x1 : Ext μ (put μ d { cls := .type "dict", data := .dict #[] }) := Ext.new nD
  have htd : d ≠ t := fun q => by rw [q, et] at nD; cases nD
  refine wpAny_bind (wpAny_holding (wpAny_bind (h1 x1 S1 (wpAny_bind (wpAny_standAt (wpAny_pure ?_))))))
  refine wpAny_bind (wpAny_onRaise (wpAny_tryCatch (wpAny_onRaise (wpAny_holding (mergeAt S1 put_self he (x1 _ _ et) ht htd (fun _ _ => int_noref) (.inl rfl) (le_line (by simp; omega)) fun s2 o2 S2 hd2 => ?_)))))
  rw [put_put] at S2
  rw [merged_nil_of_nodup _ (isDict_nodup ht)] at hd2
  have x2 : Ext μ (put μ d o2) := Ext.new nD
  refine wpAny_pure ?_
  dsimp only
  refine wpAny_bind ?_
  rw [if_neg (by simp)]
  refine wpAny_pure (wpAny_pure ?_)
  dsimp only
  refine wpAny_bind ?_
  rw [if_neg (by simp)]
  refine wpAny_bind (wpAny_holding ?_)
  unfold subDict
  refine wpAny_bind (wpAny_alloc ?_)
  have nD3 := S2.sit.new_none
  have S3 : At s0 h₀ L { s2 with heap := s2.heap.push { cls := .type "dict", data := .dict #[] } } m (put (put μ d o2) s2.heap.objs.size { cls := .type "dict", data := .dict #[] }) := ⟨S2.sit.push _, S2.kp⟩
  generalize s2.heap.objs.size = b at *
  have x3 : Ext (put μ d o2) (put (put μ d o2) b { cls := .type "dict", data := .dict #[] }) := Ext.new nD3
  have hdb : d ≠ b := fun q => by rw [← q, put_self] at nD3; cases nD3
  refine wpAny_bind (wpAny_holding ?_)
  rw [if_pos (by simp)]
  refine wpAny_bind ?_
  unfold evalPairs
  refine wpAny_bind (h2 (x2.trans x3) S3 ?_)
  refine wpAny_bind (wpAny_holding (wpAny_bind (h3 (x2.trans x3) S3 fun μ4 s4 v x4 S4 hv => wpAny_bind (wpAny_standAt (wpAny_pure ?_)))))
  refine wpAny_bind (wpAny_holding ?_)
  unfold evalPairs
  refine wpAny_pure (wpAny_pure ?_)
  simp only [List.forIn_cons, List.forIn_nil]
  have eb4 : μ4 b = some { cls := .type "dict", data := .dict #[] } := x4 _ _ put_self
  have ed4 : μ4 d = some o2 := x4 _ _ ((put_ne hdb).trans put_self)
  refine wpAny_holding (wpAny_bind (wpAny_bind (wpAny_bind (dictSetAt S4 eb4 he (intKind_is ..) (le_line (by simp)) fun s5 o5 S5 hd5 => wpAny_pure (wpAny_pure (wpAny_pure (wpAny_pure ?_)))))))
  have hd5' : o5.IsDictOf (ik w) [(k, v)] := hd5
  have ed5 : put μ4 b o5 d = some o2 := (put_ne hdb).trans ed4
  refine wpAny_bind (wpAny_onRaise (wpAny_holding (mergeAt S5 ed5 hd2 put_self hd5' hdb (fun _ _ => int_noref) (.inl rfl) (le_line (by simp; omega)) fun s6 o6 S6 hd6 => wpAny_pure (wpAny_pure ?_))))
  have xL : ExtL μ4 (put (put μ4 b o5) d o6) := fun a o e hc => by
    have a1 : a ≠ d := fun q => by
      rw [q, ed4] at e; cases e
      rw [isDict_cls hd2] at hc; simp at hc
    have a2 : a ≠ b := fun q => by
      rw [q, eb4] at e; cases e; simp at hc
    exact (put_ne a1).trans ((put_ne a2).trans e)
  have x6 : Ext μ (put (put μ4 b o5) d o6) := fun a o e => by
    have a1 : a ≠ d := fun q => by
      rw [q, nD] at e; cases e
    have a2 : a ≠ b := fun q => by
      have := x2 a o e
      rw [q, nD3] at this; cases this
    exact (put_ne a1).trans ((put_ne a2).trans (x4 _ _ (x3 _ _ (x2 _ _ e))))
  exact h d o6 _ s6 v x6 put_self nD hd6 (hG _ _ _ xL hv) S6
end
end Mine
end
section -- Make
open PySem PySem.W PySem.Calls PyProof.Rows PyProof.V PySem.Spec
set_option maxRecDepth 100000
set_option linter.unusedVariables false
namespace Mine
def MoreFn (K : Frag) (f : Addr) (nm qual : Str) (st : Stmt) (cl : List (Str × Addr)) (args : Value → Args) : Prop :=
  ∃ oc od doc pm an cda ct osl dV, K.lookup f = some ⟨oc, od, .func (fnX nm qual (sArgs st) (sBody st) (sScope st) cl dV .none doc pm an (.ref cda) ct), osl⟩ ∧ codeIn K (.ref cda) qual = true ∧
    (∀ (P : Params) x, peek K ⟨P0, P⟩ (bindArgs (fnCut (fnX nm qual (sArgs st) (sBody st) (sScope st) cl dV .none doc pm an (.ref cda) ct)) (argsCut (sArgs st) (args x))) = some [(("self" : Str), x), ("incoming_graph_data", Value.none)] ∧
      ∃ g₁, peekA K ⟨P0, P⟩ (bindArgs (fnX nm qual (sArgs st) (sBody st) (sScope st) cl dV .none doc pm an (.ref cda) ct) (args x)) = some (dictOf [] 0, g₁) ∧ ∀ D, g₁ D = pure [(("self" : Str), x), ("incoming_graph_data", Value.none), ("attr", .ref D)]) ∧
    ∃ ccl cdd vs ccs file tf, K.lookup cda = some ⟨ccl, cdd, .fields vs, ccs⟩ ∧ vs[2]? = some (.str file tf) ∧ ((P0.main.file : Str) == file) = true
structure FMake (K : Frag) : Prop where
  dig : MoreFn K 570 "__init__" "DiGraph.__init__" (inS 14 1) [] (fun x => ⟨[x], [("incoming_graph_data", .none)]⟩)
  pe : MoreFn K 781 "__init__" "PlanarEmbedding.__init__" (inS 16 0) [("__class__", 768)] (fun x => ⟨[x], []⟩)
  makes : makesIn K 906 = true
  init : findIn K (.ref 906) "__init__" = some (some (.ref 781))
  initT : typeIn K (.ref 781) = some (.type "function")
  setattr : findIn K (.ref 906) "__setattr__" = some (some (.builtin "object.__setattr__"))
  over : plainOver K 906 = true
  tGraph : takerIn K 906 "graph" = some none
  tNode : takerIn K 906 "_node" = some none
  tAdj : takerIn K 906 "_adj" = some none
  tSucc : takerIn K 906 "_succ" = some none
  tPred : takerIn K 906 "_pred" = some none
  graph : findIn K (.ref 906) "graph" = some none
  gattr : FnIn K 296 "graph_attr_dict_factory" "Graph.graph_attr_dict_factory" (inS 12 5) [] .none .none
  mGattr : MethIn K "graph_attr_dict_factory" 296
  node : FnIn K 261 "node_dict_factory" "Graph.node_dict_factory" (inS 12 0) [] .none .none
  mNode : MethIn K "node_dict_factory" 261
  outer : FnIn K 275 "adjlist_outer_dict_factory" "Graph.adjlist_outer_dict_factory" (inS 12 2) [] .none .none
  mOuter : MethIn K "adjlist_outer_dict_factory" 275

section
variable {w : World} {K : Frag} {p : Program} {loose : List Str} {mean : ExcName → Option Value} {mg mb : Str → Option Value}
variable {A A' : Around} {env env' : Env} {h₀ : Heap} {L : Addr} {m : Str → Option Value} {μ : Mu} {s0 : Anc} {s : Shared} {E : Value → Shared → Prop} {R : Result → Shared → Prop}
  {a : Addr} {cn : Str} {cs : Scope} {ccd : Value} {cl : List (Str × Addr)} {x dx : Addr} {es : List DictEntry} {n : Nat} {nm : Str} {v dV : Value}

theorem inst_ (S : At s0 h₀ L s m μ) (ex : μ x = some (instObj 906 dx)) (ed : μ dx = some (dictOf es n)) : InstAt s.heap x (instObj 906 dx) 906 (some (dictOf es n)) := ⟨S.get ex, rfl, rfl, S.get ed⟩

theorem setX {Q : Unit → Shared → Prop} (FM : FMake K) (FC : FCls K) (S : At s0 h₀ L s m μ) (H : Here K p loose mean mg mb A' env' h₀ L) (ex : μ x = some (instObj 906 dx)) (ed : μ dx = some (dictOf es n)) (ht : takerIn K 906 nm = some none) (hl : (getL nm es).isSome = true) (hz : es.length ≤ 100)
    (h : ∀ s' hsh key n', (∃ tk, key = Value.str nm tk) → At s0 h₀ L s' m (put μ dx (dictOf (putL nm hsh key v es) n')) → Q () s') : wpAny (model P0 w) A (setAttr (.ref x) nm v) Q E s := by
  have I := inst_ S ex ed
  have N : News h₀ L s.heap ((dx, dictOf es n) :: lst (del μ dx) s.heap.objs.size) := fun q hq => by
    rcases List.mem_cons.mp hq with rfl | hq
    · exact S.sit.led _ _ ed
    · exact S.sit.led _ _ (del_ext _ _ (mem_lst.mp hq).2)
  have U : Upd dx (dictOf es n) (dictOf (putL nm (PyData.keyHash w.params nm) (.str nm (s.toks + 1)) v es) (putN nm es n)) ((dx, dictOf es n) :: lst (del μ dx) s.heap.objs.size) ((dx, dictOf (putL nm (PyData.keyHash w.params nm) (.str nm (s.toks + 1)) v es) (putN nm es n)) :: lst (del μ dx) s.heap.objs.size) :=
    .head fun q hq z => by
      have := (mem_lst.mp hq).2
      rw [z] at this
      unfold del at this; rw [if_pos rfl] at this; cases this
  refine set_dict S.fr H.X N I rfl FM.setattr FM.over ht FC.hasDict hl rfl U (by
    have : ∀ l : List DictEntry, (putL nm (PyData.keyHash w.params nm) (.str nm (s.toks + 1)) v l).length ≤ l.length + 1 := fun l => by
      induction l with
      | nil => simp [putL]
      | cons e r ih => unfold putL; split <;> simp <;> omega
    have := this es; omega) fun h' F' N' => ?_
  refine h _ (PyData.keyHash w.params nm) (.str nm (s.toks + 1)) (putN nm es n) ⟨_, rfl⟩ ⟨⟨F', fun b o e => ?_, fun b o e => ?_, S.sit.big⟩, S.kp⟩
  · by_cases q : b = dx
    · subst q; rw [put_self] at e; cases e; exact N' _ (.head _)
    · rw [put_ne q] at e
      exact N' (b, o) (.tail _ (mem_lst.mpr ⟨S.sit.lt e, (del_ne q).trans e⟩))
  · by_cases q : b = dx
    · subst q; exact S.sit.low b _ ed
    · rw [put_ne q] at e; exact S.sit.low b o e
theorem methI0 {y : Str} {np pos apos : Pos} {f : Addr} {pl : Sem Bool} {Q : Value → Shared → Prop} (S : At s0 h₀ L s m μ) (H : Here K p loose mean mg mb A' env' h₀ L) (FC : FCls K) (ex : μ x = some (instObj 906 dx)) (ed : μ dx = some (dictOf es n)) (hm : m y = some (.ref x))
    (M : MethIn K nm f) (hl : getL nm es = some none)
    (h : codeAny (model P0 w) A (.call (.ref f) ⟨[.ref x], []⟩) (fun r s' => match r with | .ok (.ret v) => Q v s' | .ok _ => False | .error e => E e s') s)
    (hk : cs.kind = .function := by rfl) (hx : (envX cn cs L a ccd cl).kindOf y = some .local := by rfl) (hd : (y == ("__debug__" : Str)) = false := by decide)
    (he : eval (.Call (.Attribute (.Name y np) nm apos) [] [] pos) (envX cn cs L a ccd cl) = (do
      let ov ← eval (.Name y np) (envX cn cs L a ccd cl)
      standAt apos.atName
      let (f, first) ← holding [ov] (getMethod ov nm pl)
      callWith pos f first (backTo pos (starEach [] (envX cn cs L a ccd cl))) []) := by rfl) :
    wpAny (model P0 w) A (eval (.Call (.Attribute (.Name y np) nm apos) [] [] pos) (envX cn cs L a ccd cl)) Q E s := by
  refine MethodCall_ (pl := pl) (nameX_L S.fr hm ?_ hk hx hd) he
  exact method_inst S.fr H.X (inst_ S ex ed) FC.plain M.1 M.2.1 hl (callWith_K0 (H.X.keeps S.fr.keep) M.2.2 (wpAny_call h))
theorem attrI {y : Str} {np pos : Pos} {Q : Value → Shared → Prop} (S : At s0 h₀ L s m μ) (H : Here K p loose mean mg mb A' env' h₀ L) (FC : FCls K) (ex : μ x = some (instObj 906 dx)) (ed : μ dx = some (dictOf es n)) (hm : m y = some (.ref x)) (hf : findIn K (.ref 906) nm = some none)
    (hv : getL nm es = some (some v)) (hh : handedIn v = true) (h : ∀ s', At s0 h₀ L s' m μ → Q v s')
    (hk : cs.kind = .function := by rfl) (hx : (envX cn cs L a ccd cl).kindOf y = some .local := by rfl) (hd : (y == ("__debug__" : Str)) = false := by decide) :
    wpAny (model P0 w) A (eval (.Attribute (.Name y np) nm pos) (envX cn cs L a ccd cl)) Q E s :=
  Attribute_name (nameX_L S.fr hm (get_own S.fr H.X (inst_ S ex ed) FC.plain FC.hasDict hf rfl hv hh (h _ (S.toks _))) hk hx hd)

theorem dPopD {KK : Type} [DecidableEq KK] {knd : KeyKind P0 w KK} {kvs : List (KK × Value)} {k : KK} {key dflt : Value} {d : Addr} {o : Obj} {Q : Value → Shared → Prop} (S : At s0 h₀ L s m μ) (e : μ d = some o) (hd : o.IsDictOf knd kvs) (hkey : knd.is k key = true) (hpart : (keyPart key).isSome = true) (hl : valueAt kvs k = none)
    (h : ∀ s', At s0 h₀ L s' m μ → Q dflt s') : wpAny (model P0 w) A (call (.builtin "dict.pop") [.ref d, key, dflt]) Q E s :=
  have hD := S.dict e hd
  call_meetsIn PySem.F.slot_dict_pop hD.typeIs PySem.F.entry_dict_pop (PySem.F.args_dict_pop_3 _ _ _) (meets_dict_pop_default knd d hkey (S.low e) hpart dflt) ⟨_, hD, hl, h _ (S.toks _)⟩
theorem facSet {fac : Str} {f : Addr} {p1 p2 p3 p4 p5 p6 : Pos} {pl : Sem Bool} {Q : Flow → Shared → Prop} (FM : FMake K) (FC : FCls K) (H : Here K p loose mean mg mb A' env' h₀ L) (S : At s0 h₀ L s m μ) (ex : μ x = some (instObj 906 dx)) (ed : μ dx = some (dictOf es n)) (hm : m "self" = some (.ref x)) (M : MethIn K fac f)
    (hf : ∀ {R' : Result → Shared → Prop}, (∀ d o s', μ d = none → At s0 h₀ L s' m (put μ d o) → EmptyO w o → R' (.ok (.ret (.ref d))) s') → codeAny (model P0 w) A (.call (.ref f) ⟨[.ref x], []⟩) R' s)
    (hl : getL fac es = some none) (ht : takerIn K 906 nm = some none) (hl2 : (getL nm es).isSome = true) (hz : es.length ≤ 100) (hxd : x ≠ dx)
    (h : ∀ s' d o hsh tk n' μ', μ d = none → d ≠ dx → d ≠ x → EmptyO w o → μ' d = some o → μ' x = some (instObj 906 dx) → μ' dx = some (dictOf (putL nm hsh (.str nm tk) (.ref d) es) n') → (∀ a oa, μ a = some oa → a ≠ dx → μ' a = some oa) → At s0 h₀ L s' m μ' → Q .next s')
    (hk : cs.kind = .function := by rfl) (hx : (envX cn cs L a ccd cl).kindOf "self" = some .local := by rfl)
    (hsw : swapsWith (.Call (.Attribute (.Name "self" p3) fac p4) [] [] p5) (some (.Attribute (.Name "self" p1) nm p2)) p6.line (envX cn cs L a ccd cl) = pure false := by rfl)
    (he : eval (.Call (.Attribute (.Name "self" p3) fac p4) [] [] p5) (envX cn cs L a ccd cl) = (do
      let ov ← eval (.Name "self" p3) (envX cn cs L a ccd cl)
      standAt p4.atName
      let (f, first) ← holding [ov] (getMethod ov fac pl)
      callWith p5 f first (backTo p5 (starEach [] (envX cn cs L a ccd cl))) []) := by rfl) :
    wpAny (model P0 w) A (exec (.Assign [.Attribute (.Name "self" p1) nm p2] (.Call (.Attribute (.Name "self" p3) fac p4) [] [] p5) p6) (envX cn cs L a ccd cl)) Q E s := by
  refine plainObj_wpAny_Assign_Attribute (methI0 S H FC ex ed hm M hl (hf fun d o s' hd S' he => ?_) hk hx rfl he) hsw
  have d1 : d ≠ dx := fun q => by rw [q, ed] at hd; cases hd
  have d2 : d ≠ x := fun q => by rw [q, ex] at hd; cases hd
  refine nameX_L S'.fr hm (setX FM FC S' H ((put_ne (Ne.symm d2)).trans ex) ((put_ne (Ne.symm d1)).trans ed) ht hl2 hz fun s2 hsh key n' hkey S2 => ?_) hk hx
  obtain ⟨tk, rfl⟩ := hkey
  exact h s2 d o hsh tk n' _ hd d1 d2 he ((put_ne d1).trans put_self) ((put_ne hxd).trans ((put_ne (Ne.symm d2)).trans ex)) put_self (fun a oa e hne => (put_ne hne).trans ((put_ne fun q => by rw [q, hd] at e; cases e).trans e)) S2

theorem dig_init (F : FAll K) (FM : FMake K) (H : Here K p loose mean mg mb A env h₀ L) (S : At s0 h₀ L s m μ) (ex : μ x = some (instObj 906 dx)) (ed : μ dx = some (dictOf [] 0)) (hxd : x ≠ dx) (hroom : A.depth + 1 < recursionLimit)
    (post : ∀ s' μ' ad, At s0 h₀ L s' m μ' → Dr w μ' ad ⟨[], [], [], fun _ => [], fun _ _ => 0, fun _ _ => 0⟩ → ad .x = x → (∀ a o, μ a = some o → a ≠ dx → μ' a = some o) → R (.ok (.ret .none)) s') :
    codeAny (model P0 w) A (.call (.ref 570) ⟨[.ref x], [("incoming_graph_data", .none)]⟩) R s := by
  obtain ⟨oc, od, doc, pm, an, cda, ct, osl, dV, ho, hcd, hb, _⟩ := FM.dig
  obtain ⟨hb1, g₁, hb2, hb3⟩ := hb w.params (.ref x)
  refine call_more (ex := []) (nm := "attr") (front := [("self", .ref x), ("incoming_graph_data", .none)])
    H S ho hcd (by omega) (by with_unfolding_all rfl) (by with_unfolding_all rfl) (by with_unfolding_all rfl) .nil hb1 hb2 (fun D => hb3 D) (fun D => locs (by with_unfolding_all rfl)) (fun DA oA g L' s₁ hDA hoA H' S1 st => ?_) (by decide)
  have exA : x ≠ DA := fun q => by rw [q, hDA] at ex; cases ex
  have edA : dx ≠ DA := fun q => by rw [q, hDA] at ed; cases ed
  have ex1 := (put_ne (o := oA) exA).trans ex
  have ed1 := (put_ne (o := oA) edA).trans ed
  have hr1 : (A.deeper (envX "DiGraph.__init__" (sScope (inS 14 1)) L' 570 (.ref cda) [])).depth < recursionLimit := by show A.depth + 1 < _; omega
  refine wpAny_execs_cons (facSet FM F.C H' S1 ex1 ed1 (by rfl) FM.mGattr (fun k => fac_gattr FM.gattr H' S1 hr1 k) (by rfl) FM.tGraph (by rfl) (by simp) hxd fun s2 gd og h1 t1 n1 μ2 hgd gd1 gd2 heg egd2 ex2 ed2 k2 S2 => ?_)
  refine wpAny_execs_cons (facSet FM F.C H' S2 ex2 ed2 (by rfl) FM.mNode (fun k => fac_node FM.node H' S2 hr1 k) (by rfl) FM.tNode (by rfl) (Nat.le_of_ble_eq_true (by with_unfolding_all rfl)) hxd fun s3 nd on h2 t2 n2 μ3 hnd nd1 nd2 hen end3 ex3 ed3 k3 S3 => ?_)
  refine wpAny_execs_cons (facSet FM F.C H' S3 ex3 ed3 (by rfl) FM.mOuter (fun k => fac_outer FM.outer H' S3 hr1 k) (by rfl) FM.tAdj (by rfl) (Nat.le_of_ble_eq_true (by with_unfolding_all rfl)) hxd fun s4 sd os h3 t3 n3 μ4 hsd sd1 sd2 hes esd4 ex4 ed4 k4 S4 => ?_)
  refine wpAny_execs_cons (plainObj_wpAny_Assign_Attribute (attrI S4 H' F.C ex4 ed4 (by rfl) F.C.adj (v := .ref sd) (by rfl) rfl fun s5 S5 => nameX_L S5.fr (by rfl) (setX FM F.C S5 H' ex4 ed4 FM.tSucc (by rfl) (Nat.le_of_ble_eq_true (by with_unfolding_all rfl)) fun s6 h5 key n5 hkey S6 => ?_)))
  obtain ⟨t5, rfl⟩ := hkey
  have ex6 := (put_ne (μ := μ4) (o := dictOf (putL "_succ" h5 (.str "_succ" t5) (.ref sd) (putL "_adj" h3 (.str "_adj" t3) (.ref sd) (putL "_node" h2 (.str "_node" t2) (.ref nd) (putL "graph" h1 (.str "graph" t1) (.ref gd) [])))) n5) hxd).trans ex4
  refine wpAny_execs_cons (facSet FM F.C H' S6 ex6 put_self (by rfl) FM.mOuter (fun k => fac_outer FM.outer H' S6 hr1 k) (by rfl) FM.tPred (by rfl) (Nat.le_of_ble_eq_true (by with_unfolding_all rfl)) hxd fun s7 pd op h6 t6 n6 μ7 hpd pd1 pd2 hep epd7 ex7 ed7 k7 S7 => ?_)
  have eA1 : put μ DA oA DA = some oA := put_self
  have k6 : ∀ a oa, μ4 a = some oa → a ≠ dx → μ7 a = some oa := fun a oa e hne => k7 a oa ((put_ne hne).trans e) hne
  have eA7 : μ7 DA = some oA := k6 _ _ (k4 _ _ (k3 _ _ (k2 _ _ eA1 (Ne.symm edA)) (Ne.symm edA)) (Ne.symm edA)) (Ne.symm edA)
  have egd7 : μ7 gd = some og := k6 _ _ (k4 _ _ (k3 _ _ egd2 gd1) gd1) gd1
  have end7 : μ7 nd = some on := k6 _ _ (k4 _ _ end3 nd1) nd1
  have esd7 : μ7 sd = some os := k6 _ _ esd4 sd1
  have hga : gd ≠ DA := fun q => by rw [q, put_self] at hgd; cases hgd
  have hgn : gd ≠ nd := fun q => by rw [← q, egd2] at hnd; cases hnd
  have hgs : gd ≠ sd := fun q => by rw [← q, k3 _ _ egd2 gd1] at hsd; cases hsd
  have hgp : gd ≠ pd := fun q => by rw [← q, put_ne gd1, k4 _ _ (k3 _ _ egd2 gd1) gd1] at hpd; cases hpd
  have hns : nd ≠ sd := fun q => by rw [← q, end3] at hsd; cases hsd
  have hnp : nd ≠ pd := fun q => by rw [← q, put_ne nd1, k4 _ _ end3 nd1] at hpd; cases hpd
  have hsp : sd ≠ pd := fun q => by rw [← q, put_ne sd1, esd4] at hpd; cases hpd
  refine wpAny_execs_cons (wpAny_Expr_any (MethodCall_ (nameX_L S7.fr (by rfl) (dPopM S7 eA7 hoA (cwB (wpAny_items_cons (cStr S7 fun _ s8 S8 => wpAny_items_cons (wpAny_Constant_none (wpAny_items_nil ?_)))))))))
  refine dPopD S8 eA7 hoA (strKind_is ..) (by rfl) (by rfl) fun s9 S9 => ?_
  refine wpAny_execs_cons (wpAny_Expr_any (MethodCall_ (attrI S9 H' F.C ex7 ed7 (by rfl) FM.graph (v := .ref gd) (by rfl) rfl fun s10 S10 => dUpdM S10 egd7 (heg.2 (sk w)) (cwB (wpAny_items_cons (nameX_L S10.fr (by rfl) (wpAny_items_nil ?_)))))))
  refine dUpd S10 egd7 (heg.2 (sk w)) eA7 hoA hga (le_line (by simp)) fun s11 o11 S11 hd11 => wpAny_execs_nil ?_
  have hgx : gd ≠ x := gd2
  have keep : ∀ a o, μ a = some o → a ≠ dx → put μ7 gd o11 a = some o := fun a o e hne => by
    have e1 : put μ DA oA a = some o := (put_ne fun q => by rw [q, hDA] at e; cases e).trans e
    have hag : a ≠ gd := fun q => by rw [q, hgd] at e1; cases e1
    exact (put_ne hag).trans (k6 _ _ (k4 _ _ (k3 _ _ (k2 _ _ e1 hne) hne) hne) hne)
  let ad : Adr := fun r => match r with | .x => x | .dd => dx | .nd => nd | .sd => sd | .pd => pd | _ => 0
  refine Back.intro S11 fun k => post _ _ ad k ⟨fun r l => ?_, fun r r' l l' e => ?_, ⟨fun _ h => (nomatch h), fun _ h => (nomatch h), fun _ h => (nomatch h), fun _ _ h => (nomatch h), fun _ _ => rfl⟩⟩ rfl keep
  · cases r with
    | x => exact ⟨_, (put_ne (Ne.symm gd2)).trans ex7, rfl⟩
    | dd =>
      refine ⟨_, (put_ne (Ne.symm gd1)).trans ed7, _, _, rfl, by rfl, by rfl, by rfl, by rfl, fun nm hnm => ?_⟩
      simp only [meths, List.mem_cons, List.not_mem_nil, or_false] at hnm
      rcases hnm with rfl | rfl | rfl | rfl | rfl | rfl | rfl | rfl | rfl | rfl | rfl <;> rfl
    | nd => exact ⟨_, (put_ne (Ne.symm hgn)).trans end7, [], hen.2 _, rfl⟩
    | sd => exact ⟨_, (put_ne (Ne.symm hgs)).trans esd7, hes.2 _⟩
    | pd => exact ⟨_, (put_ne (Ne.symm hgp)).trans epd7, hep.2 _⟩
    | S v => exact absurd l (by intro h; exact nomatch (h : v ∈ ([] : List Int)))
    | P v => exact absurd l (by intro h; exact nomatch (h : v ∈ ([] : List Int)))
    | D v k => exact absurd l (by intro h; exact nomatch (h : k ∈ ([] : List Int)))
  · have noS : ∀ v, ¬ Live ⟨[], [], [], fun _ => [], fun _ _ => 0, fun _ _ => 0⟩ (.S v) := fun v h => nomatch (h : v ∈ ([] : List Int))
    have noP : ∀ v, ¬ Live ⟨[], [], [], fun _ => [], fun _ _ => 0, fun _ _ => 0⟩ (.P v) := fun v h => nomatch (h : v ∈ ([] : List Int))
    have noD : ∀ v k, ¬ Live ⟨[], [], [], fun _ => [], fun _ _ => 0, fun _ _ => 0⟩ (.D v k) := fun v k h => nomatch (h : k ∈ ([] : List Int))
    cases r <;> first | exact absurd l (noS _) | exact absurd l (noP _) | exact absurd l (noD _ _) | skip
    all_goals (cases r' <;> first | rfl | exact absurd l' (noS _) | exact absurd l' (noP _) | exact absurd l' (noD _ _) | exact absurd e hxd | exact absurd e.symm hxd | exact absurd e nd1 | exact absurd e.symm nd1 | exact absurd e nd2 | exact absurd e.symm nd2 | exact absurd e sd1 | exact absurd e.symm sd1 | exact absurd e sd2 | exact absurd e.symm sd2 | exact absurd e pd1 | exact absurd e.symm pd1 | exact absurd e pd2 | exact absurd e.symm pd2 | exact absurd e hns | exact absurd e.symm hns | exact absurd e hnp | exact absurd e.symm hnp | exact absurd e hsp | exact absurd e.symm hsp)
end
end Mine
end
section -- KwStar
open PySem PySem.W PySem.Calls PyProof.Rows PyProof.V PySem.Spec
set_option maxRecDepth 100000
set_option linter.unusedVariables false
namespace Mine
section
variable {w : World} {A : Around} {s0 : Anc} {h₀ : Heap} {L : Addr} {m : Str → Option Value} {μ : Mu} {s : Shared} {E : Value → Shared → Prop}
theorem str_noref {k : Str} {v : Value} (h : (sk w).is k v = true) (x : Addr) : v ≠ .ref x := by
  rintro rfl
  have : Value.isStrOf k (.ref x) = true := h
  simp [Value.isStrOf] at this

theorem nsSetAt {b : Addr} {k : Str} {v : Value} {Q : Unit → Shared → Prop} (S : At s0 h₀ L s m μ) (e : μ b = some (dictOf [] 0)) (h : ∀ s' o', At s0 h₀ L s' m (put μ b o') → o'.IsDictOf (sk w) [(k, v)] → Q () s') : wpAny (model P0 w) A (nsSet b k v) Q E s := by
  have N : News h₀ L s.heap ((b, dictOf [] 0) :: lst (del μ b) s.heap.objs.size) := fun q hq => by
    rcases List.mem_cons.mp hq with rfl | hq
    · exact S.sit.led _ _ e
    · exact S.sit.led _ _ (del_ext _ _ (mem_lst.mp hq).2)
  refine kp_nsSet S.fr N (fun q hq z => ?_) (fun _ he => nomatch he) (fun _ he => nomatch he) fun h' F' N' => ?_
  · have := (mem_lst.mp hq).2
    rw [z] at this
    unfold del at this; rw [if_pos rfl] at this; cases this
  · refine h _ _ ⟨⟨F', fun b' o e' => ?_, fun b' o e' => ?_, S.sit.big⟩, S.kp⟩ (kp_isDict (prog := P0) (ex := [(k, v)]) s.toks (0 + 1) (by simp))
    · by_cases q : b' = b
      · subst q; rw [put_self] at e'; cases e'; exact N' _ (.head _)
      · rw [put_ne q] at e'
        exact N' (b', o) (.tail _ (mem_lst.mpr ⟨S.sit.lt e', (del_ne q).trans e'⟩))
    · by_cases q : b' = b
      · subst q; exact S.sit.low b' _ e
      · rw [put_ne q] at e'; exact S.sit.low b' o e'

theorem mergedKw {f : Value} {n : Str} {v1 : Value} {a : Addr} {oa : Obj} {e1 e2 : Sem Value} {Q : Addr → Shared → Prop} (S : At s0 h₀ L s m μ) (ea : μ a = some oa) (ha : oa.IsDictOf (sk w) [])
    (h1 : ∀ {μ1 s1} {Q : Value → Shared → Prop} {E : Value → Shared → Prop}, At s0 h₀ L s1 m μ1 → Ext μ μ1 → (∀ s2, At s0 h₀ L s2 m μ1 → Q v1 s2) → wpAny (model P0 w) A e1 Q E s1)
    (h2 : ∀ {μ1 s1} {Q : Value → Shared → Prop} {E : Value → Shared → Prop}, At s0 h₀ L s1 m μ1 → Ext μ μ1 → (∀ s2, At s0 h₀ L s2 m μ1 → Q (.ref a) s2) → wpAny (model P0 w) A e2 Q E s1)
    (h : ∀ d od s' μ', At s0 h₀ L s' m μ' → Ext μ μ' → μ' d = some od → od.IsDictOf (sk w) [(n, v1)] → Q d s') :
    wpAny (model P0 w) A (mergedKeywords f [(some n, e1), (none, e2)]) Q E s := by
  unfold mergedKeywords
  refine wpAny_bind (wpAny_alloc ?_)
  have nD := S.sit.new_none
  have S1 : At s0 h₀ L { s with heap := s.heap.push { cls := .type "dict", data := .dict #[] } } m (put μ s.heap.objs.size { cls := .type "dict", data := .dict #[] }) := ⟨S.sit.push _, S.kp⟩
  have he : ({ cls := .type "dict", data := .dict #[] } : Obj).IsDictOf (sk w) [] := ⟨#[], 0, ⟨rfl, rfl, rfl⟩, rfl, fun _ he => by simp at he, .nil, List.nodup_nil⟩
  generalize s.heap.objs.size = d at *
  refine wpAny_bind (wpAny_holding ?_)
  refine wpAny_bind ?_
  rw [List.forIn_cons]
  refine wpAny_bind (wpAny_pure ?_)
  show wpAny (model P0 w) A (forIn [(none, e2)] [(n, e1)] _) _ _ _
  rw [List.forIn_cons]
  refine wpAny_bind (wpAny_bind ?_)
  show wpAny _ _ (if [(n, e1)].isEmpty = true then _ else _) _ _ _
  rw [if_neg (by simp)]
  refine wpAny_bind (wpAny_evalAll_cons (h1 S1 (Ext.new nD) fun s2 S2 => wpAny_evalAll_nil ?_))
  refine wpAny_bind (wpAny_alloc ?_)
  have nB := S2.sit.new_none
  have S3 : At s0 h₀ L { s2 with heap := s2.heap.push { cls := .type "dict", data := .dict #[] } } m (put (put μ d { cls := .type "dict", data := .dict #[] }) s2.heap.objs.size { cls := .type "dict", data := .dict #[] }) := ⟨S2.sit.push _, S2.kp⟩
  generalize s2.heap.objs.size = b at *
  have hdb : d ≠ b := fun q => by rw [← q, put_self] at nB; cases nB
  refine wpAny_bind ?_
  show wpAny _ _ (forIn [((n, e1), v1)] _ _) _ _ _
  rw [List.forIn_cons]
  refine wpAny_bind (wpAny_bind (nsSetAt S3 put_self fun s4 o4 S4 hd4 => wpAny_pure ?_))
  show wpAny _ _ (pure PUnit.unit) _ _ _
  refine wpAny_pure ?_
  rw [put_put] at S4
  have ed4 : put (put μ d { cls := .type "dict", data := .dict #[] }) b o4 d = some { cls := .type "dict", data := .dict #[] } := (put_ne hdb).trans put_self
  have mrg : ∀ {a' : Addr} {oa' od' : Obj} {kvs more : List (Str × Value)} {μ5 : Mu} {s5 : Shared} {Q : Unit → Shared → Prop} {E : Value → Shared → Prop} {k1 : Value → Sem Unit} {k2 : Value → Sem Unit} {k3 : Value → Sem Unit}, At s0 h₀ L s5 m μ5 → μ5 d = some od' → od'.IsDictOf (sk w) kvs → μ5 a' = some oa' → oa'.IsDictOf (sk w) more → d ≠ a' → (∀ k ∈ more.map (·.1), k ∉ kvs.map (·.1)) → kvs.length + more.length ≤ 100 →
      (∀ s' o', At s0 h₀ L s' m (put μ5 d o') → o'.IsDictOf (sk w) (merged kvs more) → Q () s') →
      wpAny (model P0 w) A ((holding [.ref a'] (((mergeMapping d (.ref a') true).onRaise k1).tryCatch k2)).onRaise k3) Q E s5 := fun S5 e5 h5 ea5 ha5 hne hdis hz k =>
    wpAny_onRaise (wpAny_holding (wpAny_tryCatch (wpAny_onRaise (mergeAt S5 e5 h5 ea5 ha5 hne (fun _ _ => str_noref) (.inr hdis) (le_line hz) k))))
  refine mrg S4 ed4 he put_self hd4 hdb (fun k _ h => nomatch h) (by simp) fun s5 o5 S5 hd5 => ?_
  have hd5' : o5.IsDictOf (sk w) [(n, v1)] := hd5
  have x5 : Ext μ (put (put (put μ d { cls := .type "dict", data := .dict #[] }) b o4) d o5) := fun a' o e => by
    have a1 : a' ≠ d := fun q => by rw [q, nD] at e; cases e
    have a2 : a' ≠ b := fun q => by rw [q] at e; rw [put_ne (Ne.symm hdb), e] at nB; cases nB
    exact (put_ne a1).trans ((put_ne a2).trans ((put_ne a1).trans e))
  refine wpAny_bind (h2 S5 x5 fun s6 S6 => ?_)
  have hda : d ≠ a := fun q => by rw [q, ea] at nD; cases nD
  refine wpAny_bind (mrg S6 put_self hd5' (x5 _ _ ea) ha hda (fun k h => nomatch h) (by simp) fun s7 o7 S7 hd7 => wpAny_pure ?_)
  show wpAny _ _ (forIn [] _ _) _ _ _
  rw [List.forIn_nil]
  refine wpAny_pure ?_
  show wpAny _ _ (if ([] : List (Str × Sem Value)).isEmpty = true then _ else _) _ _ _
  rw [if_pos (by rfl : ([] : List (Str × Sem Value)).isEmpty = true)]
  refine wpAny_pure (wpAny_pure ?_)
  refine h d o7 _ _ S7 (fun a' o e => ?_) put_self hd7
  have a1 : a' ≠ d := fun q => by rw [q, nD] at e; cases e
  exact (put_ne a1).trans (x5 _ _ e)
end
end Mine
end
section -- MakeP
open PySem PySem.W PySem.Calls PyProof.Rows PyProof.V PySem.Spec
set_option maxRecDepth 100000
set_option linter.unusedVariables false
namespace Mine
section
variable {w : World} {K : Frag} {p : Program} {loose : List Str} {mean : ExcName → Option Value} {mg mb : Str → Option Value}
variable {A A' : Around} {env env' : Env} {h₀ : Heap} {L : Addr} {m : Str → Option Value} {μ : Mu} {s0 : Anc} {s : Shared} {E : Value → Shared → Prop} {R : Result → Shared → Prop}

theorem keywordsAt {f : Value} {d : Addr} {od : Obj} {n : Str} {v1 : Value} {Q : List (Str × Value) → Shared → Prop} (S : At s0 h₀ L s m μ) (e : μ d = some od) (hd : od.IsDictOf (sk w) [(n, v1)]) (h : Q [(n, v1)] s) : wpAny (model P0 w) A (keywordsIn f d) Q E s := by
  obtain ⟨es, ep, hx, hdat, hk, hp, hn⟩ := hd
  obtain ⟨l⟩ := es
  cases hp with
  | cons hkey hval hrest =>
    cases hrest
    rename_i ent
    have hkk : ∃ t, ent.key = .str n t := by
      have : Value.isStrOf n ent.key = true := hkey
      generalize ent.key = z at this
      cases z <;> simp [Value.isStrOf] at this
      rename_i q t
      exact ⟨t, by rw [this]⟩
    obtain ⟨t, ht⟩ := hkk
    unfold keywordsIn
    refine wpAny_bind (wpAny_dictEntries (S.get e) hdat ?_)
    refine wpAny_bind ?_
    rw [← Array.forIn_toList]
    show wpAny _ _ (forIn [ent] [] _) _ _ _
    rw [List.forIn_cons]
    refine wpAny_bind ?_
    rw [ht]
    refine wpAny_pure ?_
    show wpAny _ _ (forIn [] _ _) _ _ _
    rw [List.forIn_nil]
    refine wpAny_pure (wpAny_pure ?_)
    rw [hval]
    exact h

theorem callStar {pos : Pos} {q f2 x : Addr} {n : Str} {v1 : Value} {a : Addr} {oa : Obj} {e1 e2 : Sem Value} {Q : Value → Shared → Prop} (H : Here K p loose mean mg mb A' env' h₀ L) (S : At s0 h₀ L s m μ) (eq : μ q = some (methodObj (.ref f2) (.ref x))) (hf : fnIn K f2 = true) (ea : μ a = some oa) (ha : oa.IsDictOf (sk w) [])
    (h1 : ∀ {μ1 s1} {Q : Value → Shared → Prop} {E : Value → Shared → Prop}, At s0 h₀ L s1 m μ1 → Ext μ μ1 → (∀ s2, At s0 h₀ L s2 m μ1 → Q v1 s2) → wpAny (model P0 w) A e1 Q E s1)
    (h2 : ∀ {μ1 s1} {Q : Value → Shared → Prop} {E : Value → Shared → Prop}, At s0 h₀ L s1 m μ1 → Ext μ μ1 → (∀ s2, At s0 h₀ L s2 m μ1 → Q (.ref a) s2) → wpAny (model P0 w) A e2 Q E s1)
    (h : ∀ s', At s0 h₀ L s' m μ → codeAny (model P0 w) A (.call (.ref f2) ⟨[.ref x], [(n, v1)]⟩) (fun r s' => match r with | .ok (.ret v) => Q v s' | .ok _ => False | .error e => E e s') s') :
    wpAny (model P0 w) A (callWith pos (.ref q) [] [] [(some n, e1), (none, e2)]) Q E s := by
  unfold callWith
  refine wpAny_bind (wpAny_holding ?_)
  unfold evalArgs
  refine wpAny_bind (spliced_nil (wpAny_bind (wpAny_pure ?_)))
  refine wpAny_holding ?_
  rw [if_neg (by simp)]
  refine wpAny_bind (mergedKw S ea ha h1 h2 fun d od s2 μ2 S2 x2 ed2 hd2 => ?_)
  refine wpAny_bind (wpAny_pure (wpAny_bind (wpAny_holding (keywordsAt S2 ed2 hd2 (wpAny_pure ?_)))))
  refine wpAny_bind (wpAny_standAt ?_)
  obtain ⟨k, hk', Lk⟩ := keeps_M (M := model P0 w) hf s2.heap (show MethP K q f2 (.ref x) s2.heap from ⟨S2.get (x2 _ _ eq), H.X.keeps S2.fr.keep⟩)
  refine wpAny_bind (Lk.here ?_)
  have fin : wpAny (model P0 w) A (call (.ref q) ([] ++ []) [(n, v1)]) Q E s2 := by
    refine wpAny_call (method_call (S2.get (x2 _ _ eq)) (codeAny_mono (h s2 (S2.sub x2)) fun r s' hr => ?_))
    cases r with
    | error e => exact hr
    | ok fl => cases fl <;> exact hr
  have tail : ∀ {t : Sem Value}, wpAny (model P0 w) A t Q E s2 → wpAny (model P0 w) A (t >>= fun r => holding [r] point >>= fun _ => pure r) Q E s2 :=
    fun ht => wpAny_bind (wpAny_mono ht (fun r s₂ hr => wpAny_bind (wpAny_holding (wpAny_point (wpAny_pure hr)))) fun _ _ x => x)
  have st : ((([] : List (Bool × Sem Value)).any (·.1)) || ([(some n, e1), (none, e2)] : List (Option Str × Sem Value)).any (·.1.isNone)) = true := rfl
  rw [st]
  rcases hk' with rfl | rfl | rfl
  · exact tail (by unfold callMarked; exact Calls.wpAny_keep fin)
  · exact tail (wpAny_operate' fin)
  · exact tail (wpAny_operate' fin)
end
end Mine
end
section -- MakeQ
open PySem PySem.W PySem.Calls PyProof.Rows PyProof.V PySem.Spec
set_option maxRecDepth 100000
set_option linter.unusedVariables false
namespace Mine
section
variable {w : World} {K : Frag} {p : Program} {loose : List Str} {mean : ExcName → Option Value} {mg mb : Str → Option Value}
variable {A A' : Around} {env env' : Env} {h₀ : Heap} {L : Addr} {m : Str → Option Value} {μ : Mu} {s0 : Anc} {s : Shared} {E : Value → Shared → Prop} {R : Result → Shared → Prop}
  {name qual : Str} {params : Arguments} {body : List Stmt} {scope : Scope} {dV kV doc pm cdv ct oc : Value} {an od : Option Addr} {osl : Array (Option Value)} {f : Addr} {args : Args} {x dx : Addr} {es : List DictEntry} {n : Nat}
theorem super_nodeI {whole : Sem Value} {nm : Str} {p0 p1 : Pos} {ar : Arg} {ccl : Value} {cdd : Option Addr} {ccs : Array (Option Value)} {vs : Array Value} {file : Str} {tf : Tok} {cda : Addr} {Q : Value → Shared → Prop}
    (FS : FSup K) (FC : FCls K) (H : Here K p loose mean mg mb A' env' h₀ L) (S : At s0 h₀ L s m μ) (ex : μ x = some (instObj 906 dx)) (ed : μ dx = some (dictOf es n))
    (ho : K.lookup f = some ⟨oc, od, .func (fnX name qual params body scope [("__class__", 768)] dV kV doc pm an (.ref cda) ct), osl⟩) (hp : (params.posonlyargs ++ params.args).head? = some ar) (hv : m ar.arg = some (.ref x))
    (hcode : K.lookup cda = some ⟨ccl, cdd, .fields vs, ccs⟩) (hvs : vs[2]? = some (.str file tf)) (hfile : ((P0.main.file : Str) == file) = true)
    (h : ∀ so s', μ so = none → At s0 h₀ L s' m (put μ so (ks_superObj 906 x 906)) → Q (.ref so) s')
    (hat : (nm == ("__class__" : Str)) = false := by decide) (hks : scope.names.lookup ("super" : Str) = some .globalImplicit := by rfl) (hkc : scope.names.lookup ("__class__" : Str) = some .free := by rfl) (hka : scope.names.lookup ar.arg = some .local := by rfl) (hk : scope.kind = .function := by rfl)
    (htop : (P0.main.scope.names.lookup ("super" : Str)).isSome = false := by decide +kernel) (hboot : bootBuiltins "super" = some (.type "super") := by decide +kernel) :
    _root_.PySem.wpAt (model P0 w) A (.func body (ksEnv qual scope L f (.ref cda) 768)) (attributeBase (.Call (.Name "super" p0) [] [] p1) nm (ksEnv qual scope L f (.ref cda) 768) whole) Q E s := by
  have I := inst_ S ex ed
  obtain ⟨cl, cld, csl, hcell⟩ := FS.cell
  obtain ⟨cdD, hcls⟩ := FS.cls
  have X : K.In s.heap := H.X.keeps S.fr.keep
  have hF := S.fr
  obtain ⟨hh, g, d, t, os⟩ := s
  obtain ⟨oD, hD1, hD2⟩ : ∃ oD, hh.get? 906 = some oD ∧ oD.data = .cls cdD := by
    unfold clsIn at hcls
    split at hcls
    · rename_i c d cd' sl ho
      cases hcls
      exact ⟨_, X _ _ ho, rfl⟩
    · cases hcls
  refine ks_wpAt_super_base (env := ksEnv qual scope L f (.ref cda) 768) hks hkc hat rfl (X _ _ ho) rfl hp rfl (X _ _ hcode) rfl hvs hfile htop ?_
  refine ks_loadName_global hk hks (loadGlobal_builtin (env := ksEnv qual scope L f (.ref cda) 768) (H.T.g.keeps hF.keep) (mg_none_of H.X H.T.g FS.sup) (H.T.b.keeps hF.keep) ((H.T.builtins _ (by decide +kernel)).trans hboot) ⟨rfl, ?_⟩)
  refine wpAny_loadName_free hk hkc rfl ⟨_, X _ _ hcell, rfl⟩ ?_
  refine wpAny_loadName_local hk hka hF.ns hv ?_
  refine ks_wpAny_isType_cls hD1 hD2 ⟨rfl, ?_⟩
  refine ks_wpAny_call_super hD1 hD2 I.at_ I.cls (fun c e => ?_) (looks_mroIn X FS.mro) (fun h' e k => ?_)
  · have := I.no
    unfold notCls at this
    rw [e] at this
    exact Bool.noConfusion this
  · exact h _ _ S.sit.new_none ⟨S.sit.grow1 k (Nat.le_refl _) e, S.kp⟩

theorem super_methI {nm : Str} {so f2 : Addr} {pl : Sem Bool} {Q : Value × List Value → Shared → Prop} (FS : FSup K) (FC : FCls K) (H : Here K p loose mean mg mb A' env' h₀ L) (S : At s0 h₀ L s m μ) (ex : μ x = some (instObj 906 dx)) (ed : μ dx = some (dictOf es n))
    (hso : μ so = some (ks_superObj 906 x 906)) (hm : SupIn K nm f2) (hn : (nm == ("__class__" : Str)) = false)
    (h : ∀ q s', μ q = none → At s0 h₀ L s' m (put μ q (methodObj (.ref f2) (.ref x))) → Q (.ref q, []) s') : wpAny (model P0 w) A (getMethod (.ref so) nm pl) Q E s := by
  have I := inst_ S ex ed
  obtain ⟨cd, hc⟩ := FS.cls
  have X : K.In s.heap := H.X.keeps S.fr.keep
  have hS := S.sit
  have e1 := S.get hso
  have kp := S.kp
  clear S
  obtain ⟨hh, g, d, t, os⟩ := s
  have hm1 := hm.find
  unfold ks_superIn at hm1
  rw [hc] at hm1
  obtain ⟨of, hof, hofc⟩ : ∃ of, hh.get? f2 = some of ∧ of.cls = .type "function" := by
    have ht' : (K.lookup f2).map (·.cls) = some (.type "function") := hm.typ
    cases z : K.lookup f2 with
    | none => rw [z] at ht'; cases ht'
    | some of => rw [z] at ht'; exact ⟨of, X _ _ z, Option.some.inj ht'⟩
  refine ks_wpAny_getMethod_super e1 (looks_opaque X FS.opq) (l₀ := cd.mro) ?_ rfl X hm1 hof hofc (ks_ne X I hc) hn ?_
  · exact fun A Q E s k q => wpAny_bind ((looks_clsIn X hc) A _ E s k (wpAny_pure q))
  · exact h _ _ hS.new_none ⟨hS.push _, kp⟩


theorem call_supMore {binds : Addr → List (Str × Value)} {g₁ : Addr → Sem (List (Str × Value))} (H : Here K p loose mean mg mb A env h₀ L) (S : At s0 h₀ L s m μ)
    (ho : K.lookup f = some ⟨oc, od, .func (fnX name qual params body scope [("__class__", 768)] dV kV doc pm an cdv ct), osl⟩) (hcd : codeIn K cdv qual = true) (hroom : A.depth < recursionLimit)
    (hp : peekA K ⟨P0, w.params⟩ (bindArgs (fnX name qual params body scope [("__class__", 768)] dV kV doc pm an cdv ct) args) = some (dictOf [] 0, g₁)) (hk₁ : ∀ D, g₁ D = pure (binds D))
    (hloc : ∀ D, ∀ y ∈ binds D, scope.names.lookup y.1 = some .local)
    (h : ∀ D g L' s₁, μ D = none → Here K p loose mean mg mb (A.deeper (ksEnv qual scope L' f cdv 768)) (ksEnv qual scope L' f cdv 768) g L' → At s0 g L' s₁ (fun y => (binds D).reverse.lookup y) (put μ D (dictOf [] 0)) → h₀.StaysIn g →
      _root_.PySem.wpAt (model P0 w) (A.deeper (ksEnv qual scope L' f cdv 768)) (.func body (ksEnv qual scope L' f cdv 768)) (execs body (ksEnv qual scope L' f cdv 768))
        (fun fl s' => Back s0 h₀ L m g L' R (match fl with | .ret v => v | _ => .none) s')
        (fun e s' => wpAny (model P0 w) (A.deeper (ksEnv qual scope L' f cdv 768)) (leaving (ksEnv qual scope L' f cdv 768) e) (fun _ s'' => R (.error e) s'') (fun e' s'' => R (.error e') s'') s')
        s₁)
    (hcell : ∀ x ∈ scope.names, x.2 ≠ .cell) (hco : scope.isCoroutine = false := by rfl) (hgen : scope.isGenerator = false := by rfl) (hk : scope.kind = .function := by rfl) :
    codeAny (model P0 w) A (.call (.ref f) args) R s := by
  obtain ⟨A₀, base, outer, B, hA⟩ := H.below
  have X := H.X.keeps S.fr.keep
  have NL := H.T.nolimit.keeps S.fr.keep
  refine codeAny_call_function (fd := fnX name qual params body scope [("__class__", 768)] dV kV doc pm an cdv ct) (body := body) hroom (X _ _ ho) rfl hco hgen rfl (codeRec_of X hcd) ?_
  refine wp_of_peekA (o := dictOf [] 0) S.fr S.sit.news X rfl _ g₁ hp fun h' F' N' l => ?_
  rw [hk₁]
  have nD := S.sit.new_none
  have S1 : At s0 h₀ L { s with heap := h' } m (put μ s.heap.objs.size (dictOf [] 0)) := by
    refine ⟨⟨F', fun b o e => ?_, fun b o e => ?_, S.sit.big⟩, S.kp⟩
    · by_cases q : b = s.heap.objs.size
      · subst q; rw [put_self] at e; cases e; exact N' _ (.head _)
      · rw [put_ne q] at e; exact N' (b, o) (.tail _ (mem_lst.mpr ⟨S.sit.lt e, e⟩))
    · by_cases q : b = s.heap.objs.size
      · subst q; exact beq_eq_false_iff_ne.mpr (Nat.ne_of_gt (Nat.lt_trans S.sit.big S.sit.L_lt))
      · rw [put_ne q] at e; exact S.sit.low b o e
  generalize s.heap.objs.size = D at *
  have NL1 : h'.NoLimit := H.T.nolimit.keeps F'.keep
  refine wpAny_pure ?_
  obtain ⟨FG, BG, st, lv⟩ := groundX (R := R) B S1.fr S1.sit.news hA H.frame H.kind
  have N1 := S1.sit.news
  refine wpAny_newFunctionEnv hcell (hloc D) (fun h₁ hns hsb => ⟨NL1.fresh _ hsb, ks_codeAny_funcAt ?_⟩) hk
  have hk1 : ∀ b o, h'.get? b = some o → h₁.get? b = some o := fun b o e => hsb.extBut b o (Nat.ne_of_lt (Heap.lt_size e)) (Heap.get?_push_of_some _ e)
  have F2 : Fr (hideAll h' ((lst (put μ D (dictOf [] 0)) h'.objs.size).map (·.1))) h'.objs.size h₁ (fun y => (binds D).reverse.lookup y) := ⟨hns, fun b o e => hk1 b o (of_hideAll _ e), Nat.le_of_eq (hideAll_size _ _)⟩
  have N2 : News (hideAll h' ((lst (put μ D (dictOf [] 0)) h'.objs.size).map (·.1))) h'.objs.size h₁ (lst (put μ D (dictOf [] 0)) h'.objs.size) := fun q hq => ⟨hk1 _ _ (N1 q hq).1, Nat.ne_of_lt (Heap.lt_size (N1 q hq).1), hideAll_none _ (List.mem_map_of_mem hq)⟩
  refine ks_wpAt_mono (h D _ h'.objs.size _ nD ⟨H.X.keeps st, H.T.keeps st, ⟨_, _, _, BG, Around.frames_deeper hA⟩, rfl, hk, H.hand⟩ ⟨sit_of F2 N2 (fun a o e => S1.sit.lt e) S1.sit.low (Nat.lt_of_lt_of_le (modules_low (H.T.keeps st).nolimit) F2.above), S.kp⟩ st) (fun fl s' hb => ?_) fun _ _ y => y
  obtain ⟨m', μ', S', k⟩ := hb
  exact lv _ _ ⟨h'.objs.size, m', lst μ' s'.heap.objs.size, S'.fr, S'.sit.news, fun F N => k ⟨sit_of F N (fun a o e => S'.sit.lt e) S'.sit.low S.sit.big, S'.kp⟩⟩

theorem sup_getAttr {so D C : Addr} {of : Obj} {l₀ l : List Value} {nm : Str} {h : Heap} {g : Array GenState} {d : Drawn} {t : Nat} {os : OsState} {f2 : Addr} {Q : Value → Shared → Prop}
    (hso : h.get? so = some { cls := .type "super", dict := none, data := .fields #[.ref D, .ref x, .ref C], slots := #[] }) (hno : Looks (model P0 w) h (opaqueClassAbove (.ref C)) none)
    (hC : Looks (model P0 w) h (mroOf (.ref C)) l₀) (hl : (l₀.dropWhile (· != .ref D)).drop 1 = l) (X : K.In h)
    (hf : alongIn K nm l = some (some (.ref f2))) (hfo : h.get? f2 = some of) (hfc : of.cls = .type "function") (hxC : x ≠ C) (hn : (nm == ("__class__" : Str)) = false)
    (hq : Q (.ref h.objs.size) ⟨h.push { cls := .type "method", data := .fields #[.ref f2, .ref x] }, g, d, t + 1, os⟩) :
    wpAny (model P0 w) A (getAttr (.ref so) nm true) Q E ⟨h, g, d, t, os⟩ := by
  have hlk := PySem.F.ks_slot_super_ga.lookup
  have hT : ∀ t', (⟨h, g, d, t', os⟩ : Shared).TypeIs (.ref so) "super" := fun _ => ⟨_, hso, rfl⟩
  unfold getAttr getAttrBy
  refine wpAny_bind (wpAny_mkText (wpAny_holding (wpAny_bind (wpAny_typeOf (hT _) (wpAny_bind (wpAny_of_eq hlk ?_))))))
  show wpAny _ _ (getAttrByItsOwn (.ref so) (.str nm t) (.type "super") (.builtin "super.__getattribute__") true true) _ _ _
  unfold getAttrByItsOwn hookBefore callGetattribute boundAndCalled
  refine wpAny_bind (wpAny_of_eq (show (if onTheHeap (.type "super") then typeLookup (.type "super") "__getattr__" else pure none) = pure none from rfl) ?_)
  refine wpAny_bind (wpAny_attempt (wpAny_holding ?_))
  show wpAny _ _ (bindSpecial (.builtin "super.__getattribute__") (.ref so) >>= _) _ _ _
  refine wpAny_bind (wpAny_of_eq (PySem.F.ks_slot_super_ga.bind _) ?_)
  refine wpAny_mono (Q := fun v s' => v = .ref h.objs.size ∧ s' = ⟨h.push { cls := .type "method", data := .fields #[.ref f2, .ref x] }, g, d, t + 1, os⟩) (E := fun _ _ => False)
    (wpAny_call_entry PySem.F.ks_slot_super_ga (hT _) PySem.F.ks_entry_super_ga (ks_wpAny_super_ga hso hno hC hl X hf hfo hfc hxC hn ⟨_, rfl, rfl, rfl⟩) (PySem.F.ks_gaArgs_super _ _)) (fun v s' hv => ?_) fun _ _ z => z.elim
  obtain ⟨rfl, rfl⟩ := hv
  exact wpAny_pure hq

theorem super_attrI {nm : Str} {so f2 : Addr} {Q : Value → Shared → Prop} (FS : FSup K) (FC : FCls K) (H : Here K p loose mean mg mb A' env' h₀ L) (S : At s0 h₀ L s m μ) (ex : μ x = some (instObj 906 dx)) (ed : μ dx = some (dictOf es n))
    (hso : μ so = some (ks_superObj 906 x 906)) (hm : SupIn K nm f2) (hn : (nm == ("__class__" : Str)) = false)
    (h : ∀ q s', μ q = none → At s0 h₀ L s' m (put μ q (methodObj (.ref f2) (.ref x))) → Q (.ref q) s') : wpAny (model P0 w) A (getAttr (.ref so) nm true) Q E s := by
  have I := inst_ S ex ed
  obtain ⟨cd, hc⟩ := FS.cls
  have X : K.In s.heap := H.X.keeps S.fr.keep
  have hS := S.sit
  have e1 := S.get hso
  have kp := S.kp
  clear S
  obtain ⟨hh, g, d, t, os⟩ := s
  have hm1 := hm.find
  unfold ks_superIn at hm1
  rw [hc] at hm1
  obtain ⟨of, hof, hofc⟩ : ∃ of, hh.get? f2 = some of ∧ of.cls = .type "function" := by
    have ht' : (K.lookup f2).map (·.cls) = some (.type "function") := hm.typ
    cases z : K.lookup f2 with
    | none => rw [z] at ht'; cases ht'
    | some of => rw [z] at ht'; exact ⟨of, X _ _ z, Option.some.inj ht'⟩
  refine sup_getAttr e1 (looks_opaque X FS.opq) (l₀ := cd.mro) ?_ rfl X hm1 hof hofc (ks_ne X I hc) hn ?_
  · exact fun A Q E s k q => wpAny_bind ((looks_clsIn X hc) A _ E s k (wpAny_pure q))
  · exact h _ _ hS.new_none ⟨hS.push _, kp⟩


theorem super_star {nm kn : Str} {p0 p1 apos pos pos2 kp1 kp2 : Pos} {e1 e2 : PySem.Expr} {ar : Arg} {ccl : Value} {cdd : Option Addr} {ccs : Array (Option Value)} {vs : Array Value} {file : Str} {tf : Tok} {cda f2 aA : Addr} {oA : Obj} {v1 : Value} {Q : Flow → Shared → Prop}
    (FS : FSup K) (FC : FCls K) (H : Here K p loose mean mg mb A' env' h₀ L) (S : At s0 h₀ L s m μ) (ex : μ x = some (instObj 906 dx)) (ed : μ dx = some (dictOf es n)) (hm : SupIn K nm f2)
    (ho : K.lookup f = some ⟨oc, od, .func (fnX name qual params body scope [("__class__", 768)] dV kV doc pm an (.ref cda) ct), osl⟩) (hp : (params.posonlyargs ++ params.args).head? = some ar) (hv : m ar.arg = some (.ref x))
    (hcode : K.lookup cda = some ⟨ccl, cdd, .fields vs, ccs⟩) (hvs : vs[2]? = some (.str file tf)) (hfile : ((P0.main.file : Str) == file) = true)
    (hA : μ aA = some oA) (hoA : oA.IsDictOf (sk w) [])
    (he1 : ∀ {μ1 s1} {Q : Value → Shared → Prop} {E : Value → Shared → Prop}, At s0 h₀ L s1 m μ1 → (∀ s2, At s0 h₀ L s2 m μ1 → Q v1 s2) → wpAny (model P0 w) A (eval e1 (ksEnv qual scope L f (.ref cda) 768)) Q E s1)
    (he2 : ∀ {μ1 s1} {Q : Value → Shared → Prop} {E : Value → Shared → Prop}, At s0 h₀ L s1 m μ1 → (∀ s2, At s0 h₀ L s2 m μ1 → Q (.ref aA) s2) → wpAny (model P0 w) A (eval e2 (ksEnv qual scope L f (.ref cda) 768)) Q E s1)
    (h : ∀ s3, At s0 h₀ L s3 m μ → codeAny (model P0 w) A (.call (.ref f2) ⟨[.ref x], [(kn, v1)]⟩) (fun r s' => match r with | .ok (.ret v) => Q .next s' | .ok _ => False | .error e => E e s') s3)
    (hi : interactive (ksEnv qual scope L f (.ref cda) 768) = false := by rfl)
    (hs : swapsWith (.Call (.Attribute (.Call (.Name "super" p0) [] [] p1) nm apos) [] [⟨some kn, e1, kp1⟩, ⟨none, e2, kp2⟩] pos) none pos2.line (ksEnv qual scope L f (.ref cda) 768) = pure false := by rfl)
    (he : eval (.Call (.Attribute (.Call (.Name "super" p0) [] [] p1) nm apos) [] [⟨some kn, e1, kp1⟩, ⟨none, e2, kp2⟩] pos) (ksEnv qual scope L f (.ref cda) 768) = (do
      let ov ← attributeBase (.Call (.Name "super" p0) [] [] p1) nm (ksEnv qual scope L f (.ref cda) 768) (eval (.Call (.Name "super" p0) [] [] p1) (ksEnv qual scope L f (.ref cda) 768))
      standAt apos.atName
      let (fv, first) ← holding [ov] (do pure (← getAttr ov nm true, []))
      callWith pos fv first (backTo pos (starEach [] (ksEnv qual scope L f (.ref cda) 768))) (backToKw pos (keywordEach [⟨some kn, e1, kp1⟩, ⟨none, e2, kp2⟩] (ksEnv qual scope L f (.ref cda) 768)))) := by rfl)
    (hat : (nm == ("__class__" : Str)) = false := by decide) (hks : scope.names.lookup ("super" : Str) = some .globalImplicit := by rfl) (hkc : scope.names.lookup ("__class__" : Str) = some .free := by rfl) (hka : scope.names.lookup ar.arg = some .local := by rfl) (hk : scope.kind = .function := by rfl) :
    _root_.PySem.wpAt (model P0 w) A (.func body (ksEnv qual scope L f (.ref cda) 768)) (exec (.Expr (.Call (.Attribute (.Call (.Name "super" p0) [] [] p1) nm apos) [] [⟨some kn, e1, kp1⟩, ⟨none, e2, kp2⟩] pos) pos2) (ksEnv qual scope L f (.ref cda) 768)) Q E s := by
  refine ks_wpAt_Expr_any ?_ hi hs
  rw [he]
  refine _root_.PySem.wpAt_bind (super_nodeI FS FC H S ex ed ho hp hv hcode hvs hfile (fun so s1 hso S1 => ?_) hat hks hkc hka hk)
  refine _root_.PySem.wpAt_of_wpAny (wpAny_bind (wpAny_standAt (wpAny_bind (wpAny_holding ?_))))
  have x1 : Ext μ (put μ so (ks_superObj 906 x 906)) := Ext.new hso
  refine wpAny_bind (super_attrI FS FC H S1 (x1 _ _ ex) (x1 _ _ ed) put_self hm hat fun q s2 hq S2 => wpAny_pure ?_)
  have x2 : Ext μ (put (put μ so (ks_superObj 906 x 906)) q (methodObj (.ref f2) (.ref x))) := x1.trans (Ext.new hq)
  show wpAny _ _ (callWith pos (.ref q) [] [] [(some kn, do let v ← eval e1 (ksEnv qual scope L f (.ref cda) 768); standAt pos; pure v), (none, do let v ← eval e2 (ksEnv qual scope L f (.ref cda) 768); standAt pos; pure v)]) _ _ _
  refine callStar H S2 put_self hm.fn (x2 _ _ hA) hoA (fun S' _ k => wpAny_bind (he1 S' fun s2 S2 => wpAny_bind (wpAny_standAt (wpAny_pure (k _ S2))))) (fun S' _ k => wpAny_bind (he2 S' fun s2 S2 => wpAny_bind (wpAny_standAt (wpAny_pure (k _ S2))))) fun s3 S3 => ?_
  exact h s3 (S3.sub x2)

theorem pe_init (F : FAll K) (FM : FMake K) (H : Here K p loose mean mg mb A env h₀ L) (S : At s0 h₀ L s m μ) (ex : μ x = some (instObj 906 dx)) (ed : μ dx = some (dictOf [] 0)) (hxd : x ≠ dx) (hroom : A.depth + 2 < recursionLimit)
    (post : ∀ s' μ' ad, At s0 h₀ L s' m μ' → Dr w μ' ad ⟨[], [], [], fun _ => [], fun _ _ => 0, fun _ _ => 0⟩ → ad .x = x → (∀ a o, μ a = some o → a ≠ dx → μ' a = some o) → R (.ok (.ret .none)) s') :
    codeAny (model P0 w) A (.call (.ref 781) ⟨[.ref x], []⟩) R s := by
  obtain ⟨oc, od, doc, pm, an, cda, ct, osl, dV, ho, hcd, hb, ccl, cdd, vs, ccs, file, tf, hcode, hvs, hfile⟩ := FM.pe
  obtain ⟨hb1, g₁, hb2, hb3⟩ := hb w.params (.ref x)
  refine call_supMore H S ho hcd (by omega) hb2 hb3 (fun D => locs (by with_unfolding_all rfl)) (fun DA g L' s₁ hDA H' S1 st => ?_) (by decide)
  have exA : x ≠ DA := fun q => by rw [q, hDA] at ex; cases ex
  have edA : dx ≠ DA := fun q => by rw [q, hDA] at ed; cases ed
  have ex1 := (put_ne (o := dictOf [] 0) exA).trans ex
  have ed1 := (put_ne (o := dictOf [] 0) edA).trans ed
  have eA : put μ DA (dictOf [] 0) DA = some (dictOf [] 0) := put_self
  have hoA : (dictOf [] 0).IsDictOf (sk w) [] := ⟨#[], 0, ⟨rfl, rfl, rfl⟩, rfl, fun _ he => by simp at he, .nil, List.nodup_nil⟩
  refine ks_wpAt_execs_cons (super_star F.S F.C H' S1 ex1 ed1 F.S.init ho (by rfl) (by rfl) hcode hvs hfile eA hoA (fun S' k => nameX_L S'.fr (by rfl) (k _ S')) (fun S' k => nameX_L S'.fr (by rfl) (k _ S')) fun s3 S3 => ?_)
  refine dig_init F FM H' S3 ex1 ed1 hxd (by show A.depth + 1 + 1 < _; omega) fun s4 μ4 ad4 S4 D4 hx4 k4 => ?_
  exact _root_.PySem.wpAt_of_wpAny (wpAny_execs_nil (Back.intro S4 fun k => post _ _ ad4 k D4 hx4 fun a o e hne => k4 a o ((put_ne fun q => by rw [q, hDA] at e; cases e).trans e) hne))
end
end Mine
end
section -- MakeR
open PySem PySem.W PySem.Calls PyProof.Rows PyProof.V PySem.Spec
set_option maxRecDepth 100000
set_option linter.unusedVariables false
namespace Mine
def PE.empty : PE := ⟨[], [], [], fun _ => [], fun _ _ => 0, fun _ _ => 0⟩
section
variable {w : World} {K : Frag} {p : Program} {loose : List Str} {mean : ExcName → Option Value} {mg mb : Str → Option Value}
variable {A A' : Around} {env env' : Env} {h₀ : Heap} {L : Addr} {m : Str → Option Value} {μ : Mu} {s0 : Anc} {s : Shared} {E : Value → Shared → Prop}

theorem make_spec {Q : Value → Shared → Prop} (F : FAll K) (FM : FMake K) (H : Here K p loose mean mg mb A env h₀ L) (S : At s0 h₀ L s m μ) (hroom : (A.under (.builtin "type.__call__" ⟨[.ref 906], []⟩)).depth + 2 < recursionLimit)
    (h : ∀ s' μ' ad, At s0 h₀ L s' m μ' → Dr w μ' ad PE.empty → Ext μ μ' → Q (.ref (ad .x)) s') :
    wpAny (model P0 w) A (call (.ref 906) [] []) Q E s := by
  have X := H.X.keeps S.fr.keep
  have nD := S.sit.new_none
  have S1 : At s0 h₀ L { s with heap := s.heap.push emptyDict } m (put μ s.heap.objs.size emptyDict) := ⟨S.sit.push _, S.kp⟩
  have nX := S1.sit.new_none
  have S2 : At s0 h₀ L { s with heap := (s.heap.push emptyDict).push (instObj 906 s.heap.objs.size) } m (put (put μ s.heap.objs.size emptyDict) (s.heap.objs.size + 1) (instObj 906 s.heap.objs.size)) := by
    have := S1.sit.push (instObj 906 s.heap.objs.size)
    rw [Heap.size_push] at this
    exact ⟨this, S.kp⟩
  rw [Heap.size_push] at nX
  refine wpAny_call ?_
  obtain ⟨hh, g, d, t, os⟩ := s
  refine make_core (makes_of X FM.makes) (looks_findIn X FM.init) (fun self => bind_fn X self FM.initT) (.inl rfl) ?_
  have H' : Here K p loose mean mg mb (A.under (.builtin "type.__call__" ⟨[.ref 906], []⟩)) env h₀ L := by
    obtain ⟨A₀, base, outer, B, hA⟩ := H.below
    exact ⟨H.X, H.T, ⟨A₀, base, outer, B, by show pushEnvs [] A.frames = _; rw [hA]; rfl⟩, H.frame, H.kind, H.hand⟩
  dsimp only at *
  generalize hh.objs.size = dx at *
  have hxd : dx + 1 ≠ dx := Nat.succ_ne_self _
  refine pe_init F FM H' S2 put_self ((put_ne (Ne.symm hxd)).trans put_self) hxd hroom fun s' μ' ad S' D' hx k => ⟨rfl, ?_⟩
  have := h s' μ' ad S' D' fun a o e => ?_
  · rw [hx] at this; exact this
  · have a1 : a ≠ dx := fun q => by rw [q, nD] at e; cases e
    have a2 : a ≠ dx + 1 := fun q => by rw [q] at e; rw [put_ne hxd, e] at nX; cases nX
    exact k a o ((put_ne a2).trans ((put_ne a1).trans e)) a1
end
end Mine
end
section -- AddN
open PySem PySem.W PySem.Calls PyProof.Rows PyProof.V PySem.Spec
set_option maxRecDepth 100000
set_option linter.unusedVariables false
namespace Mine
abbrev addnEnv (L a : Addr) (ccd : Value) : Env := envX "DiGraph.add_nodes_from" (sScope (inS 14 6)) L a ccd []
def addnBody : List Stmt := match nth (sBody (inS 14 6)) 0 with | .For _ _ b _ _ => b | _ => []
section
variable {w : World} {K : Frag} {p : Program} {loose : List Str} {mean : ExcName → Option Value} {mg mb : Str → Option Value}
variable {A A' : Around} {env env' : Env} {h₀ : Heap} {L a dA : Addr} {m : Str → Option Value} {μ : Mu} {s0 : Anc} {s : Shared} {E : Value → Shared → Prop} {ad : Adr} {G : PE} {ccd : Value} {v : Int} {t : Tok}

theorem addn_turn {Q : Flow → Shared → Prop} (FE : FEdge K) (FC : FCls K) (H : Here K p loose mean mg mb A (addnEnv L a ccd) h₀ L) (S : At s0 h₀ L s m μ) (D : Dr w μ ad G) (W : G.Same) (hs : m "self" = some (.ref (ad .x))) (hv : m "n" = some (.int v t)) (ha : m "attr" = some (.ref dA))
    {oA : Obj} (hA : μ dA = some oA) (hoA : oA.IsDictOf (sk w) []) (hfA : ¬ Fp ad G dA) (h5 : 0 ≤ v ∧ v < 5) (hin : v ∉ G.ks) (hroom : A.depth < recursionLimit)
    (post : ∀ s' m' μ' ad', At s0 h₀ L s' m' μ' → (∀ y : Str, y ≠ "newnode" → y ≠ "newdict" → m' y = m y) → Dr w μ' ad' (G.addV v) → Step μ ad G μ' ad' (G.addV v) → Q .next s') :
    wpAny (model P0 w) A (execs addnBody (addnEnv L a ccd)) Q E s := by
  refine wpAny_execs_cons (wpAny_Try_except ?_)
  refine wpAny_execs_cons (wpAny_Assign_Name (wpAny_Compare1 (nameX_L S.fr hv (attrX S H FC D hs FC.node (v := .ref (ad .nd)) (fun es n h => ddo_node h) rfl fun s1 S1 => ?_))))
  obtain ⟨ond, en, kvs, cn, hk⟩ := D.at_ .nd trivial
  have hk : kvs.map (·.1) = G.kn := hk
  have hinn : v ∉ G.kn := W.1 ▸ hin
  have hip : v ∉ G.kp := W.2 ▸ hin
  refine dNotIn S1 en cn (intKind_is ..) fun s2 S2 => ?_
  have hva : valueAt kvs v = none := by
    unfold valueAt
    rw [List.find?_eq_none.mpr]; · rfl
    intro x hx q
    exact hinn (hk ▸ List.mem_map.mpr ⟨x, hx, of_decide_eq_true q⟩)
  rw [hva]
  refine stL S2 fun s3 S3 => ?_
  refine wpAny_execs_cons (wpAny_Assign_Name (nameX_L S3.fr (by exact ha) (stL S3 fun s4 S4 => wpAny_execs_nil (wpAny_execs_nil ?_))))
  have hs4 : (fun y => if y = ("newdict" : Str) then some (Value.ref dA) else if y = ("newnode" : Str) then some (.bool (!(none : Option Value).isSome)) else m y) "self" = some (.ref (ad .x)) := hs
  refine wpAny_execs_cons (wpAny_If (wpAny_isTrue_value (nameX_L S4.fr (by rfl) (wpAny_truthy_bool ?_))))
  rw [if_pos (by rfl)]
  generalize hm4 : (fun y => if y = ("newdict" : Str) then some (Value.ref dA) else if y = ("newnode" : Str) then some (.bool (!(none : Option Value).isSome)) else m y) = m4 at S4 hs4
  have hv4 : m4 "n" = some (.int v t) := by rw [← hm4]; exact hv
  have hd4 : m4 "newdict" = some (.ref dA) := by rw [← hm4]; rfl
  have hmo : ∀ y, y ≠ ("newnode" : Str) → y ≠ ("newdict" : Str) → m4 y = m y := fun y h1 h2 => by rw [← hm4]; show (if _ then _ else if _ then _ else _) = _; rw [if_neg h2, if_neg h1]
  clear S1 S2 S3 hm4
  refine wpAny_execs_cons (wpAny_If (wpAny_isTrue_Compare1 (nameX_L S4.fr hv4 (wpAny_Constant_none (is_int_none (wpAny_truthy_bool ?_)))) (by rfl)))
  refine wpAny_execs_nil ?_
  refine wpAny_execs_cons (wpAny_Assign_Subscript (methX0 S4 H FC D hs4 FE.mInner (by decide) (fac_inner FE.inner H S4 hroom fun d1 o1 s3 hd1 S3 he1 => ?_)) (by rfl))
  have D3 := D.new (o := o1) hd1
  refine attrX S3 H FC D3 hs4 FC.succ (v := .ref (ad .sd)) (fun es n h => ddo_succ h) rfl fun s4 S4 => nameX_L S4.fr hv4 ?_
  obtain ⟨osd, esd, csd⟩ := D3.at_ .sd trivial
  have l1 : (G.ks.map fun v => (v, Value.ref (ad (.S v)))).length ≤ sizeLine := by
    have := le5 (isDict_nodup csd) (by simpa using D.ok.ks)
    exact le_line (by simp at this ⊢; omega)
  refine dSet S4 esd csd (intKind_is ..) l1 fun s5 o5 S5 hd5 => ?_
  have D5 := op_addS D3 hin h5 (D.fresh hd1) put_self he1 hd5
  have T5 := ((Step.rfl' μ ad G).new (o := o1) hd1).place .sd (.S v) (o' := o5) (G' := G.addS v) trivial (by intro q; cases q) (a := d1) (.inl hd1) (liveS_)
  have hs5 : m4 "self" = some (.ref (setA ad (.S v) d1 .x)) := hs4
  refine wpAny_execs_cons (wpAny_Assign_Subscript (methX0 S5 H FC D5 hs5 FE.mInner (by decide) (fac_inner FE.inner H S5 hroom fun d2 o2 s6 hd2 S6 he2 => ?_)) (by rfl))
  have D6 := D5.new (o := o2) hd2
  refine attrX S6 H FC D6 hs5 FC.pred (v := .ref (setA ad (.S v) d1 .pd)) (fun es n h => ddo_pred h) rfl fun s7 S7 => nameX_L S7.fr hv4 ?_
  obtain ⟨opd, epd, cpd⟩ := D6.at_ .pd trivial
  have l2 : (G.kp.map fun v' => (v', Value.ref (setA ad (.S v) d1 (.P v')))).length ≤ sizeLine := by
    have := le5 (isDict_nodup cpd) (by intro k hk; exact D.ok.kp k (by simpa [PE.addS] using hk))
    exact le_line (by simp [PE.addS] at this ⊢; omega)
  refine dSet S7 epd cpd (intKind_is ..) l2 fun s8 o8 S8 hd8 => ?_
  have D8 := op_addP D6 (v := v) hip h5 (D5.fresh hd2) put_self he2 hd8
  have T8 := (T5.new (o := o2) hd2).place .pd (.P v) (o' := o8) (G' := (G.addS v).addP v) trivial (by intro q; cases q) (a := d2) (.inl (T5.dom _ hd2)) (liveP_)
  have hs8 : m4 "self" = some (.ref (setA (setA ad (.S v) d1) (.P v) d2 .x)) := hs4
  refine wpAny_execs_cons (wpAny_Assign_Subscript (methX0 S8 H FC D8 hs8 FE.mNattr (by decide) (fac_nattr FE.nattr H S8 hroom fun d3 o3 s9 hd3 S9 he3 => ?_)) (by rfl))
  have D9 := D8.new (o := o3) hd3
  refine attrX S9 H FC D9 hs8 FC.node (v := .ref (setA (setA ad (.S v) d1) (.P v) d2 .nd)) (fun es n h => ddo_node h) rfl fun s10 S10 => nameX_L S10.fr hv4 ?_
  obtain ⟨ond, en, kvs, cn, hk⟩ := D9.at_ .nd trivial
  have hk : kvs.map (·.1) = G.kn := hk
  have l3 : kvs.length ≤ sizeLine := by
    have := le5 (isDict_nodup cn) (by rw [hk]; exact D.ok.kn)
    exact le_line (by simp at this; omega)
  refine dSet S10 en cn (intKind_is ..) l3 fun s11 o11 S11 hd11 => wpAny_execs_nil ?_
  have D11 := op_addN D9 (v := v) h5 (by rw [stored_keys, hk, if_neg hinn]; rfl) hd11
  have T11 := (T8.new (o := o3) hd3).upd .nd (o' := o11) (G' := ((G.addS v).addP v).addN v) trivial (liveN_)
  rw [← PE.addV_out hin] at D11 T11
  refine wpAny_execs_cons (wpAny_Expr_any (MethodCall_ (Subscript_ (attrX S11 H FC D11 (by exact hs4) FC.node (v := .ref (setA (setA ad (.S v) d1) (.P v) d2 .nd)) (fun es n h => ddo_node h) rfl fun s12 S12 => nameX_L S12.fr hv4 ?_))))
  refine dItem S12 put_self hd11 (intKind_is ..) (by rw [valueAt_stored, if_pos rfl]) fun s13 S13 => ?_
  have hnd3 : setA (setA ad (.S v) d1) (.P v) d2 .nd ≠ d3 := fun q => D8.fresh hd3 ⟨.nd, trivial, q⟩
  have eA := T11.keep dA oA hA hfA
  have hdA3 : d3 ≠ dA := fun q => by
    have h1 := T8.keep dA oA hA hfA
    rw [← q, hd3] at h1; cases h1
  refine dUpdM S13 ((put_ne (Ne.symm hnd3)).trans put_self) (he3.2 (sk w)) (cwB (wpAny_items_cons (nameX_L S13.fr hd4 (wpAny_items_nil ?_))))
  refine dUpd S13 ((put_ne (Ne.symm hnd3)).trans put_self) (he3.2 (sk w)) eA hoA hdA3 (le_line (by simp)) fun s14 o14 S14 hd14 => wpAny_execs_nil ?_
  have nf : ¬ Fp (setA (setA ad (.S v) d1) (.P v) d2) (G.addV v) d3 := fun ⟨r, l, q⟩ => by
    rw [PE.addV_out hin] at l
    exact D8.fresh hd3 ⟨r, liveN_ r l, q⟩
  refine post _ _ _ _ S14 hmo (D11.off nf) ?_
  refine ⟨fun b ob e m => (put_ne fun q => ?_).trans (T11.keep b ob e m), T11.grow, fun b e => ?_, T11.x, T11.ks⟩
  · have := T8.keep b ob e m
    rw [q, hd3] at this; cases this
  · by_cases q : b = d3
    · rw [q, put_self] at e; cases e
    · exact T11.dom b ((put_ne q).symm.trans e)
end
end Mine
end
section -- AddN2
open PySem PySem.W PySem.Calls PyProof.Rows PyProof.V PySem.Spec
set_option maxRecDepth 100000
set_option linter.unusedVariables false
namespace Mine
structure FAddN (K : Frag) : Prop where
  addn : FnIn K 614 "add_nodes_from" "DiGraph.add_nodes_from" (inS 14 6) [] .none .none
  mAddn : MethIn K "add_nodes_from" 614
def LItO (o : Obj) (ax : Addr) (i : Nat) : Prop := ∀ {h : Heap} {I : Addr}, h.get? I = some o → h.IsListIter I ax i
def PE.addVs (G : PE) (vs : List Int) : PE := vs.foldl PE.addV G
section
variable {w : World} {K : Frag} {p : Program} {loose : List Str} {mean : ExcName → Option Value} {mg mb : Str → Option Value}
variable {A A' : Around} {env env' : Env} {h₀ : Heap} {L a dA : Addr} {m : Str → Option Value} {μ μ' : Mu} {s0 : Anc} {s : Shared} {E : Value → Shared → Prop} {ad : Adr} {G : PE} {R : Result → Shared → Prop} {I ax : Addr} {oI oa : Obj} {its : List Value} {i : Nat} {x : Value}

theorem lIter {Q : Value → Shared → Prop} (S : At s0 h₀ L s m μ) (ea : μ ax = some oa) (ha : LO its oa) (h : ∀ I oI s', μ I = none → At s0 h₀ L s' m (put μ I oI) → LItO oI ax 0 → Q (.ref I) s') :
    wpAny (model P0 w) A (pyIter (.ref ax)) Q E s := by
  refine wpAny_pyIter_list (ha.isList (S.get ea)) ?_
  exact h _ _ _ S.sit.new_none (S.heap (S.sit.push _) s.toks) fun e => ⟨_, e, rfl, rfl⟩
theorem lNext {Q : Option Value → Shared → Prop} (S : At s0 h₀ L s m μ) (eI : μ I = some oI) (hI : LItO oI ax i) (ea : μ ax = some oa) (ha : LO its oa) (hx : its[i]? = some x)
    (h : ∀ s' o', At s0 h₀ L s' m (put μ I o') → LItO o' ax (i + 1) → Q (some x) s') : wpAny (model P0 w) A (pyNext (.ref I)) Q E s := by
  refine wpAny_pyNext_list_item (hI (S.get eI)) (ha.isList (S.get ea)) (x := x) (by simpa using hx) fun h' hit' hs' => ?_
  obtain ⟨o', ho', r⟩ := hit'
  exact h _ o' (S.heap (S.sit.upd eI hs' ho') s.toks) fun e => ⟨_, e, r⟩
theorem lDone {Q : Option Value → Shared → Prop} (hh : A.handled = none) (S : At s0 h₀ L s m μ) (eI : μ I = some oI) (hI : LItO oI ax i) (ea : μ ax = some oa) (ha : LO its oa) (hi : its.length ≤ i)
    (h : ∀ s', At s0 h₀ L s' m (del μ I) → Q none s') : wpAny (model P0 w) A (pyNext (.ref I)) Q E s := by
  refine wpAny_pyNext_list_end hh (hI (S.get eI)) (ha.isList (S.get ea)) (by simpa using hi) fun h' he' => ?_
  exact h _ (S.del_of eI he')

theorem Step.side {μ₁ : Mu} {ad₁ : Adr} {G₁ : PE} {o : Obj} (x : Step μ ad G μ₁ ad₁ G₁) (h : μ I = none) : Step μ ad G (put μ₁ I o) ad₁ G₁ := by
  refine ⟨fun b ob e n => (put_ne fun q => by rw [q, h] at e; cases e).trans (x.keep b ob e n), x.grow, fun b e => ?_, x.x, x.ks⟩
  by_cases q : b = I
  · rw [q, put_self] at e; cases e
  · exact x.dom b ((put_ne q).symm.trans e)
theorem Step.del {μ₁ : Mu} {ad₁ : Adr} {G₁ : PE} (x : Step μ ad G μ₁ ad₁ G₁) (h : μ I = none) : Step μ ad G (del μ₁ I) ad₁ G₁ := by
  refine ⟨fun b ob e n => (del_ne fun q => by rw [q, h] at e; cases e).trans (x.keep b ob e n), x.grow, fun b e => ?_, x.x, x.ks⟩
  by_cases q : b = I
  · rw [q]; exact h
  · exact x.dom b ((del_ne q).symm.trans e)
theorem Cont.cls {r : Role} {o : Obj} (h : Cont w ad G r o) : o.cls = .type "dict" ∨ o.cls = .ref 906 := by
  cases r with
  | x => rw [show o = instObj 906 (ad .dd) from h]; exact .inr rfl
  | dd => obtain ⟨es, n, rfl, _⟩ := h; exact .inl rfl
  | nd => obtain ⟨kvs, h, _⟩ := h; exact .inl (isDict_cls h)
  | sd => exact .inl (isDict_cls (show o.IsDictOf _ _ from h))
  | pd => exact .inl (isDict_cls (show o.IsDictOf _ _ from h))
  | S v => exact .inl (isDict_cls (show o.IsDictOf _ _ from h))
  | P v => obtain ⟨kvs, h, _⟩ := h; exact .inl (isDict_cls h)
  | D v k => obtain ⟨kvs, _, _, h, _⟩ := h; exact .inl (isDict_cls h)
theorem Dr.off_cls (D : Dr w μ ad G) {o : Obj} (e : μ I = some o) (h1 : o.cls ≠ .type "dict") (h2 : o.cls ≠ .ref 906) : ¬ Fp ad G I := by
  rintro ⟨r, l, rfl⟩
  obtain ⟨o', e', c⟩ := D.at_ r l
  rw [e] at e'; cases e'
  rcases c.cls with q | q
  · exact h1 q
  · exact h2 q
theorem lit_cls (S : At s0 h₀ L s m μ) (eI : μ I = some oI) (hI : LItO oI ax i) : oI.cls = .type "list_iterator" := by
  obtain ⟨o, ho, hc, _⟩ := hI (S.get eI)
  rw [S.get eI] at ho; cases ho; exact hc

theorem addVs_take {ns : List Int} {v : Int} (h : ns[i]? = some v) : G.addVs (ns.take (i + 1)) = (G.addVs (ns.take i)).addV v := by
  unfold PE.addVs; rw [List.take_add_one, h, List.foldl_append]; rfl
theorem addVs_same {ns : List Int} (W : G.Same) : (G.addVs ns).Same := by
  unfold PE.addVs
  induction ns generalizing G with
  | nil => exact W
  | cons v l ih => exact ih (W.addV v)
theorem addVs_mem {ns : List Int} {v : Int} (h : v ∈ (G.addVs ns).ks) : v ∈ G.ks ∨ v ∈ ns := by
  unfold PE.addVs at h
  induction ns generalizing G with
  | nil => exact .inl h
  | cons u l ih =>
    rcases ih (G := G.addV u) h with q | q
    · by_cases hu : u ∈ G.ks
      · rw [PE.addV_in hu] at q; exact .inl q
      · rw [PE.addV_out hu] at q
        rcases List.mem_append.mp q with q | q
        · exact .inl q
        · cases List.mem_singleton.mp q; exact .inr (.head _)
    · exact .inr (.tail _ q)

theorem addn_spec {lx : Addr} {ol : Obj} {its : List Value} {ns : List Int} (FN : FAddN K) (FE : FEdge K) (FC : FCls K) (H : Here K p loose mean mg mb A env h₀ L) (S : At s0 h₀ L s m μ) (D : Dr w μ ad G) (W : G.Same) (el : μ lx = some ol) (hl : LO its ol) (hi : IntsAre its ns)
    (hn : ns.Nodup) (h5 : ∀ v ∈ ns, 0 ≤ v ∧ v < 5) (hd : ∀ v ∈ ns, v ∉ G.ks) (hroom : A.depth + 1 < recursionLimit)
    (post : ∀ s' μ' ad', At s0 h₀ L s' m μ' → Dr w μ' ad' (G.addVs ns) → Step μ ad G μ' ad' (G.addVs ns) → R (.ok (.ret .none)) s') :
    codeAny (model P0 w) A (.call (.ref 614) ⟨[.ref (ad .x), .ref lx], []⟩) R s := by
  obtain ⟨oc, od, doc, pm, an, cdv, ct, osl, ho, hcd⟩ := FN.addn
  refine call_more (ex := []) (nm := "attr") (front := [("self", .ref (ad .x)), ("nodes_for_adding", .ref lx)])
    H S ho hcd (by omega) (by with_unfolding_all rfl) (by with_unfolding_all rfl) (by with_unfolding_all rfl) .nil (by with_unfolding_all rfl) (by with_unfolding_all rfl) (fun _ => rfl) (fun D => locs (by with_unfolding_all rfl)) (fun DA oA g L' s₁ hDA hoA H' S1 st => ?_) (by decide)
  have hlen : its.length = ns.length := hi.length
  have D1 := D.new (o := oA) hDA
  have el1 : put μ DA oA lx = some ol := (put_ne fun q => by rw [q, hDA] at el; cases el).trans el
  have nfl : ¬ Fp ad G lx := D.list_off el hl.1
  have nfA : ¬ Fp ad G DA := D.fresh hDA
  let St : Addr → Nat → Shared → Prop := fun I k s => ∃ i oI m2 μ2 ad2, i + k = ns.length ∧ At s0 g L' s m2 μ2 ∧ μ2 I = some oI ∧ LItO oI lx i ∧ put μ DA oA I = none ∧ Dr w μ2 ad2 (G.addVs (ns.take i)) ∧ Step (put μ DA oA) ad G μ2 ad2 (G.addVs (ns.take i)) ∧
    m2 "self" = some (.ref (ad .x)) ∧ m2 "attr" = some (.ref DA)
  refine wpAny_execs_cons (forName St (nameX_L S1.fr (by rfl) (lIter S1 el1 hl fun I oI s2 hI0 S2 hI => ?_)) (fun I k s hSt => ?_))
  · exact ⟨I, ns.length, rfl, 0, oI, _, _, ad, Nat.zero_add _, S2, put_self, hI, hI0, D1.new hI0, (Step.rfl' _ ad G).side hI0, by rfl, by rfl⟩
  · obtain ⟨i, oI, m2, μ2, ad2, hik, S2, eI, hI, hI0, D2, T2, ms, ma⟩ := hSt
    have el2 := T2.keep _ _ el1 nfl
    have eA2 := T2.keep _ _ (put_self : put μ DA oA DA = some oA) nfA
    by_cases hlt : i < ns.length
    · obtain ⟨v, hv⟩ : ∃ v, ns[i]? = some v := ⟨ns[i], by simp [hlt]⟩
      obtain ⟨tv, hx⟩ := hi.get i v hv
      refine lNext S2 eI hI el2 hl hx fun s3 oI' S3 hI' => stL S3 fun s4 S4 => ?_
      have nfI : ¬ Fp ad2 (G.addVs (ns.take i)) I := D2.off_cls eI (by rw [lit_cls S2 eI hI]; simp) (by rw [lit_cls S2 eI hI]; simp)
      have D3 := D2.off (o := oI') nfI
      have T3 := T2.side (o := oI') hI0
      have hvm : v ∈ ns := List.mem_of_getElem? hv
      have hnin : v ∉ (G.addVs (ns.take i)).ks := fun q => by
        rcases addVs_mem q with q | q
        · exact hd v hvm q
        · have h1 : (ns.take (i + 1)).Nodup := hn.sublist (List.take_sublist _ _)
          rw [List.take_add_one, hv] at h1
          exact (List.nodup_append.mp h1).2.2 v q v (by simp) rfl
      have hAI : DA ≠ I := fun q => by rw [← q, put_self] at hI0; cases hI0
      have nfA2 : ¬ Fp ad2 (G.addVs (ns.take i)) DA := fun f => (T2.grow _ f).elim nfA fun q => by rw [put_self] at q; cases q
      refine wpAny_mono (addn_turn FE FC H' S4 D3 (addVs_same W) (by rw [T2.x]; exact ms) (by rfl) (by exact ma) ((put_ne hAI).trans eA2) hoA nfA2 (h5 v hvm) hnin (by show A.depth + 1 < _; omega) (Q := fun f s₃ => f = .next ∧ ∃ k', k' < k ∧ St I k' s₃) (E := _) fun s5 m5 μ5 ad5 S5 hm5 D5 T5 => ⟨rfl, ?_⟩) (fun f s₃ hf => ?_) fun _ _ z => z
      · refine ⟨k - 1, by omega, i + 1, oI', m5, μ5, ad5, by omega, S5, T5.keep _ _ put_self nfI, hI', hI0, by rw [addVs_take hv]; exact D5, by rw [addVs_take hv]; exact T3.trans T5, ?_, ?_⟩
        · rw [hm5 _ (by decide) (by decide)]; exact ms
        · rw [hm5 _ (by decide) (by decide)]; exact ma
      · obtain ⟨rfl, h⟩ := hf; exact h
    · refine lDone H'.hand S2 eI hI el2 hl (by omega) fun s3 S3 => wpAny_execs_nil ?_
      have hin : i = ns.length := by omega
      rw [hin, List.take_length] at D2 T2
      have nfI : ¬ Fp ad2 (G.addVs ns) I := D2.off_cls eI (by rw [lit_cls S2 eI hI]; simp) (by rw [lit_cls S2 eI hI]; simp)
      refine Back.intro S3 fun kk => post _ _ ad2 kk (D2.mono fun r l o e => (del_ne fun q => nfI ⟨r, l, q⟩).trans e) ?_
      exact ((Step.rfl' μ ad G).new (o := oA) hDA).trans (T2.del hI0)
end
end Mine
end
section -- Has
open PySem PySem.W PySem.Calls PyProof.Rows PyProof.V PySem.Spec
set_option maxRecDepth 100000
set_option linter.unusedVariables false
namespace Mine
structure FHas (K : Frag) : Prop where
  has : FnIn K 443 "has_edge" "Graph.has_edge" (inS 12 25) [] .none .none
  mHas : MethIn K "has_edge" 443
section
variable {w : World} {K : Frag} {p : Program} {loose : List Str} {mean : ExcName → Option Value} {mg mb : Str → Option Value}
variable {A A' : Around} {env env' : Env} {h₀ : Heap} {L : Addr} {m : Str → Option Value} {μ : Mu} {s0 : Anc} {s : Shared} {E : Value → Shared → Prop} {ad : Adr} {G : PE} {R : Result → Shared → Prop}

theorem has_spec {u v : Int} {tu tv : Tok} (FH : FHas K) (FC : FCls K) (H : Here K p loose mean mg mb A env h₀ L) (S : At s0 h₀ L s m μ) (D : Dr w μ ad G) (hu : u ∈ G.ks) (hroom : A.depth < recursionLimit)
    (post : ∀ s', At s0 h₀ L s' m μ → R (.ok (.ret (.bool (decide (v ∈ G.ord u))))) s') :
    codeAny (model P0 w) A (.call (.ref 443) ⟨[.ref (ad .x), .int u tu, .int v tv], []⟩) R s := by
  obtain ⟨oc, od, doc, pm, an, cdv, ct, osl, ho, hcd⟩ := FH.has
  refine call_def (binds := [("self", .ref (ad .x)), ("u", .int u tu), ("v", .int v tv)]) H S ho hcd hroom (BindsTo.of_eq (by with_unfolding_all rfl)) (locs (by with_unfolding_all rfl)) (fun g L' s₁ H' S1 _ => ?_) (by decide)
  refine wpAny_execs_cons (wpAny_Try_except (wpAny_execs_cons (wpAny_Return_some (wpAny_Compare1 (nameX_L S1.fr (by rfl) (Subscript_ (attrX S1 H' FC D (by rfl) FC.adj (v := .ref (ad .sd)) (fun es n h => ddo_adj h) rfl fun s2 S2 => nameX_L S2.fr (by rfl) ?_)))))))
  obtain ⟨osd, esd, csd⟩ := D.at_ .sd trivial
  refine dItem S2 esd csd (intKind_is ..) (by rw [valueAt_map, if_pos hu]) fun s3 S3 => ?_
  obtain ⟨oS, eS, cS⟩ := D.at_ (.S u) hu
  refine dIn S3 eS cS (intKind_is ..) fun s4 S4 => ?_
  rw [valueAt_map]
  have e : (if v ∈ G.ord u then some (Value.ref (ad (.D u v))) else none).isSome = decide (v ∈ G.ord u) := by split <;> simp [*]
  rw [e]
  exact Back.intro S4 fun k => post _ k

theorem methCA {x nm : Str} {np pos apos : Pos} {f c : Addr} {oc : Obj} {e : PySem.Expr} {rest : List PySem.Expr} {pl : Sem Bool} {Q : Value → Shared → Prop}
    (S : At s0 h₀ L s m μ) (H : Here K p loose mean mg mb A' env' h₀ L) (FC : FCls K) (D : Dr w μ ad G) (ec : μ c = some oc) (hoc : CellO (some (.ref (ad .x))) oc) (M : MethIn K nm f) (hnm : nm ∈ meths)
    (h : wpAny (model P0 w) A (spliced (backTo pos (starEach (e :: rest) env))) (fun vs s₁ => K.In s₁.heap ∧ codeAny (model P0 w) A (.call (.ref f) ⟨.ref (ad .x) :: vs, []⟩) (fun r s' => match r with | .ok (.ret v) => Q v s' | .ok _ => False | .error e => E e s') s₁) E s)
    (hk : env.scope.kind = .function := by rfl) (hl : env.kindOf x = some .cell := by rfl) (hc : env.cells.lookup x = some c := by rfl) (hd : (x == ("__debug__" : Str)) = false := by decide)
    (he' : starEach (e :: rest) env = (false, eval e env) :: starEach rest env := by rfl) (hp : (backTo pos (starEach rest env)).any (·.1) = false := by rfl)
    (he : eval (.Call (.Attribute (.Name x np) nm apos) (e :: rest) [] pos) env = (do
      let ov ← eval (.Name x np) env
      standAt apos.atName
      let (f, first) ← holding [ov] (getMethod ov nm pl)
      callWith pos f first (backTo pos (starEach (e :: rest) env)) []) := by rfl) :
    wpAny (model P0 w) A (eval (.Call (.Attribute (.Name x np) nm apos) (e :: rest) [] pos) env) Q E s := by
  refine MethodCall_ (pl := pl) (nameCell S ec hoc ?_ hk hl hc hd) he
  obtain ⟨es, n, hD, I⟩ := D.inst S
  refine method_inst S.fr H.X I FC.plain M.1 M.2.1 ?_ (callWith_K H.X M.2.2 (wpAny_mono h (fun vs s₁ h₁ => ⟨h₁.1, wpAny_call h₁.2⟩) fun _ _ x => x) he' hp)
  obtain ⟨es', n', e, _, _, _, _, hno⟩ := hD
  have : es = es' := by
    have h1 : Data.dict es.toArray n = Data.dict es'.toArray n' := congrArg Obj.data e
    injection h1 with h1 _
    simpa using congrArg Array.toList h1
  subst this
  exact hno nm hnm
end
end Mine
end
section -- Pure
set_option linter.unusedVariables false
namespace Mine
def Ch (R : Int → Int → Prop) : List Int → Prop
  | x :: y :: l => R x y ∧ Ch R (y :: l)
  | _ => True
theorem Ch.append {R : Int → Int → Prop} : ∀ {l : List Int} {x : Int} {m : List Int}, Ch R (l ++ x :: m) ↔ Ch R (l ++ [x]) ∧ Ch R (x :: m)
  | [], x, m => by simp [Ch]
  | [a], x, m => by simp [Ch]
  | a :: b :: l, x, m => by
    have := @Ch.append R (b :: l) x m
    simp only [List.cons_append, Ch] at this ⊢
    rw [this]; exact and_assoc.symm
theorem Ch.mono {R R' : Int → Int → Prop} : ∀ {l : List Int}, Ch R l → (∀ x ∈ l, ∀ y ∈ l.drop 1, R x y → R' x y) → Ch R' l
  | [], _, _ => trivial
  | [_], _, _ => trivial
  | a :: b :: l, h, k => ⟨k a (.head _) b (.head _) h.1, h.2.mono fun x hx y hy => k x (.tail _ hx) y (.tail _ hy)⟩
theorem Ch.at {R : Int → Int → Prop} : ∀ {l : List Int} {i : Nat} {x y : Int}, Ch R l → l[i]? = some x → l[i + 1]? = some y → R x y
  | [], _, _, _, _, h, _ => by simp at h
  | [_], i, _, _, _, _, h => by simp at h
  | a :: b :: l, 0, x, y, h, hx, hy => by simp at hx hy; subst hx; subst hy; exact h.1
  | a :: b :: l, i + 1, x, y, h, hx, hy => by simp at hx; exact h.2.at hx (by simpa using hy)

theorem nilConc (l : List Int) : l = [] ∨ ∃ m p, l = m ++ [p] := by
  rcases List.eq_nil_or_concat l with e | ⟨m, p, e⟩
  · exact .inl e
  · exact .inr ⟨m, p, by rw [e, List.concat_eq_append]⟩
def Two (f g : Int → Int) (x y : Int) : Prop := f x = y ∧ g y = x
structure R3 (o : List Int) (f g : Int → Int) (row : List Int) : Prop where
  nodup : row.Nodup
  mem : ∀ c, c ∈ row ↔ c ∈ o
  head : row.head? = o.getLast?
  cyc : ∀ h t, row = h :: t → Ch (Two f g) (row ++ [h])

theorem R3.nil {f g : Int → Int} : R3 [] f g [] := ⟨List.nodup_nil, fun _ => Iff.rfl, rfl, fun _ _ h => nomatch h⟩
theorem R3.one {f g : Int → Int} {b : Int} (hf : f b = b) (hg : g b = b) : R3 [b] f g [b] := ⟨by simp, fun _ => Iff.rfl, rfl, fun h t e => by cases e; exact ⟨⟨hf, hg⟩, trivial⟩⟩
theorem R3.congr {o : List Int} {f g f' g' : Int → Int} {row : List Int} (r : R3 o f g row) (hf : ∀ x ∈ o, f' x = f x) (hg : ∀ x ∈ o, g' x = g x) : R3 o f' g' row := by
  refine ⟨r.nodup, r.mem, r.head, fun h t e => (r.cyc h t e).mono fun x hx y hy hR => ?_⟩
  have mx : ∀ z ∈ row ++ [h], z ∈ o := fun z hz => by
    rcases List.mem_append.mp hz with q | q
    · exact (r.mem z).mp q
    · cases List.mem_singleton.mp q; exact (r.mem h).mp (by rw [e]; exact .head _)
  exact ⟨(hf x (mx x hx)).trans hR.1, (hg y (mx y (List.mem_of_mem_drop hy))).trans hR.2⟩

theorem R3.before {o o' : List Int} {f g f' g' : Int → Int} {l1 l2 : List Int} {b c : Int} (r : R3 o f g (l1 ++ c :: l2)) (hb : b ∉ o)
    (f1 : f' (g c) = b) (f2 : f' b = c) (f3 : ∀ j, j ≠ g c → j ≠ b → f' j = f j) (g1 : g' c = b) (g2 : g' b = g c) (g3 : ∀ j, j ≠ c → j ≠ b → g' j = g j)
    (hm : ∀ x, x ∈ o' ↔ x ∈ o ∨ x = b) (hl : o'.getLast? = if l1 = [] then some b else o.getLast?) : R3 o' f' g' (l1 ++ b :: c :: l2) := by
  have nd := r.nodup
  have hbr : b ∉ l1 ++ c :: l2 := fun q => hb ((r.mem b).mp q)
  have hbc : b ≠ c := fun q => hbr (by rw [q]; simp)
  have key : f (g c) = c → ∀ {L : List Int}, Ch (Two f g) L → (∀ x ∈ L, x ≠ b) → (∀ y ∈ L.drop 1, y ≠ c) → Ch (Two f' g') L := fun hfr L h h1 h2 =>
    h.mono fun x hx y hy hR => by
      have hyc := h2 y hy
      have hxr : x ≠ g c := fun q => hyc (by rw [← hR.1, q, hfr])
      exact ⟨(f3 x hxr (h1 x hx)).trans hR.1, (g3 y hyc (h1 y (List.mem_of_mem_drop hy))).trans hR.2⟩
  have nb : ∀ {x}, x ∈ l1 ++ c :: l2 → x ≠ b := fun hx q => hbr (q ▸ hx)
  have nd' : (l1 ++ b :: c :: l2).Nodup := by
    rw [List.nodup_append] at nd ⊢
    refine ⟨nd.1, List.nodup_cons.mpr ⟨fun q => hbr (List.mem_append_right _ q), nd.2.1⟩, fun x hx y hy => ?_⟩
    rcases List.mem_cons.mp hy with rfl | hy
    · exact nb (List.mem_append_left _ hx)
    · exact nd.2.2 x hx y hy
  refine ⟨nd', fun x => ?_, ?_, ?_⟩
  · rw [hm, ← r.mem]
    simp only [List.mem_append, List.mem_cons]
    constructor
    · rintro (q | q | q | q)
      · exact .inl (.inl q)
      · exact .inr q
      · exact .inl (.inr (.inl q))
      · exact .inl (.inr (.inr q))
    · rintro ((q | q | q) | q)
      · exact .inl q
      · exact .inr (.inr (.inl q))
      · exact .inr (.inr (.inr q))
      · exact .inr (.inl q)
  · rw [hl]
    cases l1 with
    | nil => simp
    | cons h t => rw [if_neg (by simp)]; have := r.head; simpa using this
  · intro h' t' e
    rcases nilConc l1 with rfl | ⟨l, p, rfl⟩
    · -- c heads the row
      cases e
      have hc := r.cyc c l2 rfl
      obtain ⟨mm, p, hmp⟩ : ∃ mm p, c :: l2 = mm ++ [p] := by
        rcases nilConc (c :: l2) with q | ⟨mm, p, q⟩
        · cases q
        · exact ⟨mm, p, q⟩
      simp only [List.nil_append] at hc nd hbr nb ⊢
      have e1 : (c :: l2) ++ [c] = mm ++ p :: [c] := by rw [hmp]; simp
      rw [e1, Ch.append] at hc
      have hgp : g c = p := hc.2.1.2
      have hfr : f (g c) = c := by rw [hgp]; exact hc.2.1.1
      have e2 : (b :: c :: l2) ++ [b] = b :: c :: (l2 ++ [b]) := rfl
      rw [e2]
      refine ⟨⟨f2, g1⟩, ?_⟩
      have e3 : c :: (l2 ++ [b]) = mm ++ p :: [b] := by
        have : c :: (l2 ++ [b]) = (c :: l2) ++ [b] := rfl
        rw [this, hmp]; simp
      rw [e3, Ch.append]
      refine ⟨key hfr hc.1 (fun x hx => nb (hmp ▸ hx)) fun y hy => ?_, ⟨by rw [← hgp]; exact f1, by rw [g2, hgp]⟩, trivial⟩
      rw [← hmp] at hy
      have hy : y ∈ l2 := hy
      exact fun q => (List.nodup_cons.mp nd).1 (q ▸ hy)
    · obtain ⟨h, t, ht⟩ : ∃ h t, l ++ [p] = h :: t := by cases l with
        | nil => exact ⟨p, [], rfl⟩
        | cons a l => exact ⟨a, l ++ [p], rfl⟩
      have hh : h' = h := by rw [ht] at e; cases e; rfl
      subst hh
      have hc := r.cyc h' (t ++ c :: l2) (by rw [ht]; rfl)
      have e1 : (l ++ [p]) ++ c :: l2 ++ [h'] = l ++ p :: (c :: (l2 ++ [h'])) := by simp
      rw [e1, Ch.append] at hc
      obtain ⟨c1, c2, c3⟩ := hc
      have hgp : g c = p := c2.2
      have hfr : f (g c) = c := by rw [hgp]; exact c2.1
      have e2 : (l ++ [p]) ++ b :: c :: l2 ++ [h'] = l ++ p :: (b :: c :: (l2 ++ [h'])) := by simp
      rw [e2, Ch.append]
      have hrow : ∀ {x}, x ∈ l ++ [p] → x ∈ (l ++ [p]) ++ c :: l2 := fun hx => List.mem_append_left _ hx
      have hdis := (List.nodup_append.mp nd).2.2
      have h'l : h' ∈ l ++ [p] := by rw [ht]; exact .head _
      refine ⟨key hfr c1 (fun x hx => nb (hrow hx)) fun y hy => hdis y (List.mem_of_mem_drop hy) c (.head _), ⟨by rw [← hgp]; exact f1, by rw [g2, hgp]⟩, ⟨f2, g1⟩, ?_⟩
      refine key hfr c3 (fun x hx => ?_) fun y hy => ?_
      · rcases List.mem_cons.mp hx with rfl | hx
        · exact fun q => hbc q.symm
        · rcases List.mem_append.mp hx with q | q
          · exact nb (List.mem_append_right _ (.tail _ q))
          · cases List.mem_singleton.mp q; exact nb (hrow h'l)
      · have hy : y ∈ l2 ++ [h'] := hy
        rcases List.mem_append.mp hy with q | q
        · exact fun z => (List.nodup_cons.mp (List.nodup_append.mp nd).2.1).1 (z ▸ q)
        · cases List.mem_singleton.mp q; exact hdis h' h'l c (.head _)
end Mine
end
section -- Pure2
set_option linter.unusedVariables false
namespace Mine
theorem R3.atEnd {o o' : List Int} {f g f' g' : Int → Int} {l : List Int} {b d : Int} (r : R3 o f g (l ++ [d])) (hb : b ∉ o)
    (f1 : f' d = b) (f2 : f' b = f d) (f3 : ∀ j, j ≠ d → j ≠ b → f' j = f j) (g1 : g' (f d) = b) (g2 : g' b = d) (g3 : ∀ j, j ≠ f d → j ≠ b → g' j = g j)
    (hm : ∀ x, x ∈ o' ↔ x ∈ o ∨ x = b) (hl : o'.getLast? = o.getLast?) : R3 o' f' g' (l ++ [d] ++ [b]) := by
  have nd := r.nodup
  have hbr : b ∉ l ++ [d] := fun q => hb ((r.mem b).mp q)
  obtain ⟨h, t, ht⟩ : ∃ h t, l ++ [d] = h :: t := by cases l with
    | nil => exact ⟨d, [], rfl⟩
    | cons a l => exact ⟨a, l ++ [d], rfl⟩
  refine ⟨?_, fun x => ?_, ?_, ?_⟩
  · rw [List.nodup_append]
    refine ⟨nd, by simp, fun x hx y hy => ?_⟩
    cases List.mem_singleton.mp hy
    exact fun q => hbr (q ▸ hx)
  · rw [hm, ← r.mem, List.mem_append, List.mem_singleton]
  · rw [hl, ← r.head, ht]; rfl
  · intro h' t' e
    have hh : h' = h := by rw [ht] at e; cases e; rfl
    subst hh
    have hc := r.cyc h' t ht
    have e1 : l ++ [d] ++ [h'] = l ++ d :: [h'] := by simp
    rw [e1, Ch.append] at hc
    have hfd : f d = h' := hc.2.1.1
    have e2 : l ++ [d] ++ [b] ++ [h'] = l ++ d :: [b, h'] := by simp
    rw [e2, Ch.append]
    have nb : ∀ {x}, x ∈ l ++ [d] → x ≠ b := fun hx q => hbr (q ▸ hx)
    refine ⟨hc.1.mono fun x hx y hy hR => ?_, ⟨f1, g2⟩, ⟨f2.trans hfd, by rw [← hfd]; exact g1⟩, trivial⟩
    have hyh : y ≠ f d := fun q => by
      rw [hfd] at q; subst q
      have : y ∈ t := by rw [ht] at hy; exact hy
      rw [ht] at nd
      exact (List.nodup_cons.mp nd).1 this
    have hxd : x ≠ d := fun q => hyh (by rw [← hR.1, q])
    exact ⟨(f3 x hxd (nb hx)).trans hR.1, (g3 y hyh (nb (List.mem_of_mem_drop hy))).trans hR.2⟩

theorem R3.ring {o : List Int} {f g : Int → Int} {row : List Int} (r : R3 o f g row) : ∀ c ∈ o, f c ∈ o ∧ g c ∈ o ∧ g (f c) = c ∧ f (g c) = c := by
  intro c hc
  have hc' := (r.mem c).mpr hc
  obtain ⟨l1, l2, e⟩ := List.append_of_mem hc'
  have hr := r.cyc
  rw [e] at hr
  have mx : ∀ {x}, x ∈ l1 ++ c :: l2 → x ∈ o := fun hx => (r.mem _).mp (e ▸ hx)
  have fw : f c ∈ o ∧ g (f c) = c := by
    cases l2 with
    | cons y l2 =>
      cases l1 with
      | nil =>
        have := (hr c (y :: l2) rfl).1
        exact ⟨by rw [this.1]; exact mx (by simp), by rw [this.1]; exact this.2⟩
      | cons x l1 =>
        have := hr x (l1 ++ c :: y :: l2) rfl
        rw [show x :: l1 ++ c :: y :: l2 ++ [x] = x :: l1 ++ c :: (y :: l2 ++ [x]) by simp, Ch.append] at this
        exact ⟨by rw [this.2.1.1]; exact mx (by simp), by rw [this.2.1.1]; exact this.2.1.2⟩
    | nil =>
      cases l1 with
      | nil =>
        have := (hr c [] rfl).1
        exact ⟨by rw [this.1]; exact mx (by simp), by rw [this.1]; exact this.2⟩
      | cons x l1 =>
        have := hr x (l1 ++ [c]) rfl
        rw [show x :: l1 ++ [c] ++ [x] = x :: l1 ++ c :: [x] by simp, Ch.append] at this
        exact ⟨by rw [this.2.1.1]; exact mx (by simp), by rw [this.2.1.1]; exact this.2.1.2⟩
  have bw : g c ∈ o ∧ f (g c) = c := by
    rcases nilConc l1 with q | ⟨l, p, q⟩
    · subst q
      obtain ⟨mm, p, hmp⟩ : ∃ mm p, c :: l2 = mm ++ [p] := by
        rcases nilConc (c :: l2) with q | ⟨mm, p, q⟩
        · cases q
        · exact ⟨mm, p, q⟩
      have := hr c l2 rfl
      rw [List.nil_append, show (c :: l2) ++ [c] = mm ++ p :: [c] by rw [hmp]; simp, Ch.append] at this
      exact ⟨by rw [this.2.1.2]; exact mx (by rw [List.nil_append, hmp]; simp), by rw [this.2.1.2]; exact this.2.1.1⟩
    · subst q
      obtain ⟨h, t, ht⟩ : ∃ h t, l ++ [p] = h :: t := by cases l with
        | nil => exact ⟨p, [], rfl⟩
        | cons a l => exact ⟨a, l ++ [p], rfl⟩
      have := hr h (t ++ c :: l2) (by rw [ht]; rfl)
      rw [show l ++ [p] ++ c :: l2 ++ [h] = l ++ p :: (c :: (l2 ++ [h])) by simp, Ch.append] at this
      exact ⟨by rw [this.2.1.2]; exact mx (by simp), by rw [this.2.1.2]; exact this.2.1.1⟩
  exact ⟨fw.1, bw.1, fw.2, bw.2⟩

def Rows (G : PE) (rows : Int → List Int) : Prop := ∀ v, R3 (G.ord v) (G.cw v) (G.ccw v) (rows v)

theorem Rows.ring {G : PE} {rows : Int → List Int} (r : Rows G rows) (v : Int) : G.Ring v := fun c hc => ⟨((r v).ring c hc).1, ((r v).ring c hc).2.1⟩
theorem Rows.nil_iff {G : PE} {rows : Int → List Int} (r : Rows G rows) (v : Int) : G.ord v = [] ↔ rows v = [] := by
  have := (r v).head
  cases ho : G.ord v with
  | nil => rw [ho] at this; simp only [List.getLast?_nil, List.head?_eq_none_iff] at this; simp [this]
  | cons x l =>
    rw [ho] at this
    cases hr : rows v with
    | nil => rw [hr] at this; simp [List.getLast?_cons] at this
    | cons y m => simp
theorem Rows.walk {G : PE} {rows : Int → List Int} (r : Rows G rows) (v : Int) : Walk G v (rows v) where
  none_ := r.nil_iff v
  first h := by
    have := (r v).head
    rw [List.head?_eq_getElem?, List.getLast?_eq_some_getLast h] at this
    exact this
  mem c hc := ((r v).mem c).mp hc
  nodup := (r v).nodup
  step i c d hc hd := by
    obtain ⟨h, t, e⟩ : ∃ h t, rows v = h :: t := by
      cases q : rows v with
      | nil => rw [q] at hc; simp at hc
      | cons x l => exact ⟨x, l, rfl⟩
    exact (((r v).cyc h t e).at (i := i) (x := c) (y := d) (by rw [List.getElem?_append_left (List.getElem?_eq_some_iff.mp hc).1]; exact hc) (by rw [List.getElem?_append_left (List.getElem?_eq_some_iff.mp hd).1]; exact hd)).1
  last i c d hc hi h0 := by
    obtain ⟨h, t, e⟩ : ∃ h t, rows v = h :: t := by
      cases q : rows v with
      | nil => rw [q] at hc; simp at hc
      | cons x l => exact ⟨x, l, rfl⟩
    have hd : h = d := by rw [e] at h0; simpa using h0
    subst hd
    exact (((r v).cyc h t e).at (i := i) (x := c) (y := h) (by rw [List.getElem?_append_left (List.getElem?_eq_some_iff.mp hc).1]; exact hc) (by rw [List.getElem?_append_right (by omega), hi]; simp)).1

theorem addV_ord (G : PE) (v : Int) : (G.addV v).ord = G.ord ∧ (G.addV v).cw = G.cw ∧ (G.addV v).ccw = G.ccw := by
  unfold PE.addV; split <;> exact ⟨rfl, rfl, rfl⟩
theorem addEdge_ord (G : PE) (u v c d : Int) : (G.addEdge u v c d).ord = set1 G.ord u (G.ord u ++ [v]) ∧ (G.addEdge u v c d).cw = set2 G.cw u v c ∧ (G.addEdge u v c d).ccw = set2 G.ccw u v d := by
  obtain ⟨a1, a2, a3⟩ := addV_ord G u
  obtain ⟨b1, b2, b3⟩ := addV_ord (G.addV u) v
  unfold PE.addEdge PE.edge
  simp only [b1, b2, b3, a1, a2, a3, and_self]
theorem mv_mem {G : PE} {u l : Int} (h : l ∈ G.ord u) : (∀ x, x ∈ (G.mv u l).ord u ↔ x ∈ G.ord u) ∧ ((G.mv u l).ord u).getLast? = some l := by
  have e : (G.mv u l).ord u = ((G.ord u).filter fun k => decide (k ≠ l)) ++ [l] := by simp [PE.mv, PE.pop, PE.edge]
  rw [e]
  refine ⟨fun x => ?_, by simp⟩
  simp only [List.mem_append, List.mem_filter, decide_eq_true_eq, List.mem_singleton]
  constructor
  · rintro (q | q)
    · exact q.1
    · exact q ▸ h
  · intro q
    by_cases hx : x = l
    · exact .inr hx
    · exact .inl ⟨q, hx⟩
theorem mv_cw (G : PE) (u l : Int) : (G.mv u l).cw = G.cw ∧ (G.mv u l).ccw = G.ccw := by
  constructor <;> (funext x y; simp only [PE.mv, PE.pop, PE.edge, set2]; split)
  · rename_i h; rw [h.1, h.2]
  · rfl
  · rename_i h; rw [h.1, h.2]
  · rfl
theorem mv_ne (G : PE) {u v : Int} (l : Int) (h : v ≠ u) : (G.mv u l).ord v = G.ord v := by
  simp [PE.mv, PE.pop, PE.edge, set1_ne h]
theorem set1_at {α : Type} {f : Int → α} {v : Int} {x : α} {u : Int} : set1 f v x u = if u = v then x else f u := rfl
theorem set2_at {α : Type} {f : Int → Int → α} {v k : Int} {x : α} {j : Int} : set2 f v k x v j = if j = k then x else f v j := by simp [set2]
theorem set2_off {α : Type} {f : Int → Int → α} {v k u : Int} {x : α} (h : u ≠ v) : set2 f v k x u = f u := by funext j; simp [set2, h]

def insAt (row : List Int) (k : Nat) (b : Int) : List Int := row.take k ++ b :: row.drop k

theorem halfCw_off {G : PE} {a b c v : Int} (h : v ≠ a) : (G.halfCw a b c).ord v = G.ord v ∧ (G.halfCw a b c).cw v = G.cw v ∧ (G.halfCw a b c).ccw v = G.ccw v := by
  obtain ⟨e1, e2, e3⟩ := addEdge_ord G a b c (G.ccw a c)
  unfold PE.halfCw
  simp only
  split
  · simp only [PE.setCw, PE.setCcw, e1, e2, e3, set1_ne h, set2_off h, and_self]
  · rw [mv_ne _ _ h, (mv_cw _ _ _).1, (mv_cw _ _ _).2]
    simp only [PE.setCw, PE.setCcw, e1, e2, e3, set1_ne h, set2_off h, and_self]
theorem halfCcw_off {G : PE} {a b c v : Int} (h : v ≠ a) : (G.halfCcw a b c).ord v = G.ord v ∧ (G.halfCcw a b c).cw v = G.cw v ∧ (G.halfCcw a b c).ccw v = G.ccw v := by
  obtain ⟨e1, e2, e3⟩ := addEdge_ord G a b (G.cw a c) c
  unfold PE.halfCcw
  rw [mv_ne _ _ h, (mv_cw _ _ _).1, (mv_cw _ _ _).2]
  simp only [PE.setCw, PE.setCcw, e1, e2, e3, set1_ne h, set2_off h, and_self]
theorem halfFirst_off {G : PE} {a b v : Int} (h : v ≠ a) : (G.halfFirst a b).ord v = G.ord v ∧ (G.halfFirst a b).cw v = G.cw v ∧ (G.halfFirst a b).ccw v = G.ccw v := by
  obtain ⟨e1, e2, e3⟩ := addEdge_ord G a b b b
  unfold PE.halfFirst
  simp only [e1, e2, e3, set1_ne h, set2_off h, and_self]

theorem halfFirst_row {G : PE} {a b : Int} (h : G.ord a = []) : R3 ((G.halfFirst a b).ord a) ((G.halfFirst a b).cw a) ((G.halfFirst a b).ccw a) [b] := by
  obtain ⟨e1, e2, e3⟩ := addEdge_ord G a b b b
  unfold PE.halfFirst
  rw [e1, e2, e3, set1_self, h]
  exact R3.one (by simp) (by simp)

theorem getLast!_some {o : List Int} (h : o ≠ []) : o.getLast? = some o.getLast! := by rw [getLast!_eq h, List.getLast?_eq_some_getLast h]

theorem halfCw_row {G : PE} {a b c : Int} {row : List Int} {k : Nat} (r : R3 (G.ord a) (G.cw a) (G.ccw a) row) (hb : b ∉ G.ord a) (hc : row[k]? = some c) :
    R3 ((G.halfCw a b c).ord a) ((G.halfCw a b c).cw a) ((G.halfCw a b c).ccw a) (insAt row k b) := by
  have hk : k < row.length := (List.getElem?_eq_some_iff.mp hc).1
  have hck : row[k] = c := (List.getElem?_eq_some_iff.mp hc).2
  have hco : c ∈ G.ord a := (r.mem c).mp (hck ▸ List.getElem_mem hk)
  have hcb : c ≠ b := fun q => hb (q ▸ hco)
  obtain ⟨_, hg, _, hfg⟩ := r.ring c hco
  have hgb : G.ccw a c ≠ b := fun q => hb (q ▸ hg)
  have hne : G.ord a ≠ [] := fun q => by rw [q] at hco; cases hco
  have hl := getLast!_some hne
  have hlm : (G.ord a).getLast! ∈ G.ord a := List.mem_of_getLast? hl
  have erow : row = row.take k ++ c :: row.drop (k + 1) := by
    conv => lhs; rw [← List.take_append_drop k row, List.drop_eq_getElem_cons hk, hck]
  have eins : insAt row k b = row.take k ++ b :: c :: row.drop (k + 1) := by
    unfold insAt; rw [List.drop_eq_getElem_cons hk, hck]
  have hhead : row.take k = [] ↔ c = (G.ord a).getLast! := by
    have hh := r.head
    rw [hl] at hh
    constructor
    · intro q
      rw [erow, q] at hh
      simpa using hh
    · intro q
      have k0 : k = 0 := by
        have : row[0]? = some c := by rw [← List.head?_eq_getElem?, hh, q]
        have h0 : 0 < row.length := by omega
        have h2 : row[0] = c := (List.getElem?_eq_some_iff.mp this).2
        exact (List.getElem_inj r.nodup).mp (hck.trans h2.symm)
      rw [k0]; rfl
  obtain ⟨e1, e2, e3⟩ := addEdge_ord G a b c (G.ccw a c)
  rw [erow] at r
  rw [eins]
  have ocw : (G.halfCw a b c).cw a = set2 (set2 G.cw a b c) a (G.ccw a c) b a ∧ (G.halfCw a b c).ccw a = set2 (set2 G.ccw a b (G.ccw a c)) a c b a := by
    unfold PE.halfCw
    simp only
    split
    · simp only [PE.setCw, PE.setCcw, e2, e3, and_self]
    · rw [(mv_cw _ _ _).1, (mv_cw _ _ _).2]
      simp only [PE.setCw, PE.setCcw, e2, e3, and_self]
  rw [ocw.1, ocw.2]
  refine r.before hb ?_ ?_ ?_ ?_ ?_ ?_ ?_ ?_
  · rw [set2_at, if_pos rfl]
  · rw [set2_at, if_neg (Ne.symm hgb), set2_at, if_pos rfl]
  · intro j h1 h2; rw [set2_at, if_neg h1, set2_at, if_neg h2]
  · rw [set2_at, if_pos rfl]
  · rw [set2_at, if_neg (Ne.symm hcb), set2_at, if_pos rfl]
  · intro j h1 h2; rw [set2_at, if_neg h1, set2_at, if_neg h2]
  all_goals unfold PE.halfCw; simp only
  · intro x
    split
    · simp only [PE.setCw, PE.setCcw, e1, set1_self, List.mem_append, List.mem_singleton]
    · rw [(mv_mem (by simp only [PE.setCw, PE.setCcw, e1, set1_self]; exact List.mem_append_left _ hlm)).1]
      simp only [PE.setCw, PE.setCcw, e1, set1_self, List.mem_append, List.mem_singleton]
  · split
    · rename_i q
      rw [if_pos (hhead.mpr q)]
      simp only [PE.setCw, PE.setCcw, e1, set1_self, List.getLast?_append, List.getLast?_singleton, Option.some_or]
    · rename_i q
      rw [if_neg (fun z => q (hhead.mp z)), (mv_mem (by simp only [PE.setCw, PE.setCcw, e1, set1_self]; exact List.mem_append_left _ hlm)).2, hl]

theorem halfCcw_row {G : PE} {a b d : Int} {row : List Int} {k : Nat} (r : R3 (G.ord a) (G.cw a) (G.ccw a) row) (hb : b ∉ G.ord a) (hd : row[k]? = some d) :
    R3 ((G.halfCcw a b d).ord a) ((G.halfCcw a b d).cw a) ((G.halfCcw a b d).ccw a) (insAt row (k + 1) b) := by
  have hk : k < row.length := (List.getElem?_eq_some_iff.mp hd).1
  have hck : row[k] = d := (List.getElem?_eq_some_iff.mp hd).2
  have hdo : d ∈ G.ord a := (r.mem d).mp (hck ▸ List.getElem_mem hk)
  have hdb : d ≠ b := fun q => hb (q ▸ hdo)
  obtain ⟨hf, _, hgf, _⟩ := r.ring d hdo
  have hfb : G.cw a d ≠ b := fun q => hb (q ▸ hf)
  have hne : G.ord a ≠ [] := fun q => by rw [q] at hdo; cases hdo
  have hl := getLast!_some hne
  have hlm : (G.ord a).getLast! ∈ G.ord a := List.mem_of_getLast? hl
  obtain ⟨e1, e2, e3⟩ := addEdge_ord G a b (G.cw a d) d
  have ocw : (G.halfCcw a b d).cw a = set2 (set2 G.cw a b (G.cw a d)) a d b a ∧ (G.halfCcw a b d).ccw a = set2 (set2 G.ccw a b d) a (G.cw a d) b a := by
    unfold PE.halfCcw
    rw [(mv_cw _ _ _).1, (mv_cw _ _ _).2]
    simp only [PE.setCw, PE.setCcw, e2, e3, and_self]
  have mem : ∀ x, x ∈ (G.halfCcw a b d).ord a ↔ x ∈ G.ord a ∨ x = b := fun x => by
    unfold PE.halfCcw
    rw [(mv_mem (by simp only [PE.setCw, PE.setCcw, e1, set1_self]; exact List.mem_append_left _ hlm)).1]
    simp only [PE.setCw, PE.setCcw, e1, set1_self, List.mem_append, List.mem_singleton]
  have last : ((G.halfCcw a b d).ord a).getLast? = (G.ord a).getLast? := by
    unfold PE.halfCcw
    rw [(mv_mem (by simp only [PE.setCw, PE.setCcw, e1, set1_self]; exact List.mem_append_left _ hlm)).2, hl]
  rw [ocw.1, ocw.2]
  have e0 : row = row.take k ++ d :: row.drop (k + 1) := by
    conv => lhs; rw [← List.take_append_drop k row, List.drop_eq_getElem_cons hk, hck]
  have et : row.take (k + 1) = row.take k ++ [d] := by rw [List.take_succ_eq_append_getElem hk, hck]
  by_cases hk1 : k + 1 < row.length
  · -- before the one that comes after d
    have hc : row[k + 1]? = some (G.cw a d) := by
      obtain ⟨h, t, e⟩ : ∃ h t, row = h :: t := by
        cases q : row with
        | nil => rw [q] at hk; simp at hk
        | cons x l => exact ⟨x, l, rfl⟩
      have := ((r.cyc h t e).at (i := k) (x := d) (y := row[k + 1]) (by rw [List.getElem?_append_left hk]; exact hd) (by rw [List.getElem?_append_left hk1]; exact List.getElem?_eq_getElem hk1)).1
      rw [List.getElem?_eq_getElem hk1, this]
    have hcg : row[k + 1] = G.cw a d := (List.getElem?_eq_some_iff.mp hc).2
    have erow : row = row.take (k + 1) ++ G.cw a d :: row.drop (k + 2) := by
      conv => lhs; rw [← List.take_append_drop (k + 1) row, List.drop_eq_getElem_cons hk1, hcg]
    have eins : insAt row (k + 1) b = row.take (k + 1) ++ b :: G.cw a d :: row.drop (k + 2) := by
      unfold insAt; rw [List.drop_eq_getElem_cons hk1, hcg]
    rw [eins]
    rw [erow] at r
    refine r.before hb ?_ ?_ ?_ ?_ ?_ ?_ mem ?_
    · rw [hgf, set2_at, if_pos rfl]
    · rw [set2_at, if_neg (Ne.symm hdb), set2_at, if_pos rfl]
    · intro j h1 h2; rw [hgf] at h1; rw [set2_at, if_neg h1, set2_at, if_neg h2]
    · rw [set2_at, if_pos rfl]
    · rw [set2_at, if_neg (Ne.symm hfb), set2_at, if_pos rfl, hgf]
    · intro j h1 h2; rw [set2_at, if_neg h1, set2_at, if_neg h2]
    · rw [if_neg (by rw [et]; simp), last]
  · have hd0 : row.drop (k + 1) = [] := List.drop_eq_nil_of_le (by omega)
    have eins : insAt row (k + 1) b = row.take k ++ [d] ++ [b] := by unfold insAt; rw [et, hd0]
    rw [eins]
    rw [e0, hd0] at r
    refine r.atEnd hb ?_ ?_ ?_ ?_ ?_ ?_ mem last
    · rw [set2_at, if_pos rfl]
    · rw [set2_at, if_neg (Ne.symm hdb), set2_at, if_pos rfl]
    · intro j h1 h2; rw [set2_at, if_neg h1, set2_at, if_neg h2]
    · rw [set2_at, if_pos rfl]
    · rw [set2_at, if_neg (Ne.symm hfb), set2_at, if_pos rfl]
    · intro j h1 h2; rw [set2_at, if_neg h1, set2_at, if_neg h2]
theorem Rows.lay {G G' : PE} {rows : Int → List Int} {a : Int} {row' : List Int} (r : Rows G rows) (off : ∀ v, v ≠ a → G'.ord v = G.ord v ∧ G'.cw v = G.cw v ∧ G'.ccw v = G.ccw v)
    (h : R3 (G'.ord a) (G'.cw a) (G'.ccw a) row') : Rows G' (set1 rows a row') := by
  intro v
  by_cases q : v = a
  · subst q; rw [set1_self]; exact h
  · obtain ⟨e1, e2, e3⟩ := off v q
    rw [set1_ne q, e1, e2, e3]; exact r v
def placeOf (row : List Int) (way k : Nat) : Nat := if way = 4 ∨ row = [] then 0 else k % row.length + way % 2
theorem put_rows {G : PE} {rows : Int → List Int} {a b : Int} {way k : Nat} (r : Rows G rows) (hb : b ∉ G.ord a) (hw : way < 5) (hn : rows a = [] → way = 4) :
    ∃ G', putRes G a b way (if rows a = [] then none else (rows a)[k % (rows a).length]?) = some G' ∧ Rows G' (set1 rows a (insAt (rows a) (placeOf (rows a) way k) b)) ∧ ∀ v, v ≠ a → G'.ord v = G.ord v := by
  by_cases e : rows a = []
  · have w4 := hn e
    subst w4
    have eo := (r.nil_iff a).mpr e
    refine ⟨G.halfFirst a b, by simp [putRes, firstRes, eo], ?_, fun v hv => (halfFirst_off hv).1⟩
    have : insAt (rows a) (placeOf (rows a) 4 k) b = [b] := by simp [insAt, e]
    rw [this]
    exact r.lay (fun v hv => halfFirst_off hv) (halfFirst_row eo)
  · have eo : G.ord a ≠ [] := fun q => e ((r.nil_iff a).mp q)
    have hlen : 0 < (rows a).length := List.length_pos_iff.mpr e
    have hkl : k % (rows a).length < (rows a).length := Nat.mod_lt _ hlen
    have hget : (rows a)[k % (rows a).length]? = some (rows a)[k % (rows a).length] := List.getElem?_eq_getElem hkl
    have hco : (rows a)[k % (rows a).length] ∈ G.ord a := ((r a).mem _).mp (List.getElem_mem hkl)
    rw [if_neg e, hget]
    by_cases w4 : way = 4
    · subst w4
      refine ⟨G.halfCw a b (G.ord a).getLast!, by simp [putRes, firstRes, eo], ?_, fun v hv => (halfCw_off hv).1⟩
      have : placeOf (rows a) 4 k = 0 := by simp [placeOf]
      rw [this]
      refine r.lay (fun v hv => halfCw_off hv) (halfCw_row (r a) hb ?_)
      rw [← List.head?_eq_getElem?, (r a).head, getLast!_some eo]
    · have hpl : placeOf (rows a) way k = k % (rows a).length + way % 2 := by simp [placeOf, w4, e]
      rw [hpl]
      by_cases w0 : way = 0 ∨ way = 2
      · refine ⟨G.halfCw a b (rows a)[k % (rows a).length], ?_, ?_, fun v hv => (halfCw_off hv).1⟩
        · rw [putRes, if_pos (by omega)]
          simp [halfRes, eo, hco]
        · have : way % 2 = 0 := by omega
          rw [this]
          exact r.lay (fun v hv => halfCw_off hv) (halfCw_row (r a) hb hget)
      · refine ⟨G.halfCcw a b (rows a)[k % (rows a).length], ?_, ?_, fun v hv => (halfCcw_off hv).1⟩
        · rw [putRes, if_neg (by omega), if_pos (by omega)]
          simp [halfRes, eo, hco]
        · have : way % 2 = 1 := by omega
          rw [this]
          exact r.lay (fun v hv => halfCcw_off hv) (halfCcw_row (r a) hb hget)
theorem first_rows {G : PE} {rows : Int → List Int} {a b : Int} {way k : Nat} (r : Rows G rows) (e : rows a = []) :
    halfRes G a b none none = some (G.halfFirst a b) ∧ Rows (G.halfFirst a b) (set1 rows a (insAt (rows a) (placeOf (rows a) way k) b)) := by
  have eo := (r.nil_iff a).mpr e
  refine ⟨by simp [halfRes, eo], ?_⟩
  have : insAt (rows a) (placeOf (rows a) way k) b = [b] := by simp [insAt, e]
  rw [this]
  exact r.lay (fun v hv => halfFirst_off hv) (halfFirst_row eo)
end Mine
end
section -- Seq
open PySem PySem.W PySem.Calls PyProof.Rows PyProof.V PySem.Spec
set_option maxRecDepth 100000
set_option linter.unusedVariables false
namespace Mine
section
variable {w : World} {K : Frag} {p : Program} {loose : List Str} {mean : ExcName → Option Value} {mg mb : Str → Option Value}
variable {A A' : Around} {env env' : Env} {h₀ : Heap} {L : Addr} {m : Str → Option Value} {μ μ' : Mu} {s0 : Anc} {s : Shared} {E : Value → Shared → Prop}

theorem At.grab {h' : Heap} {tk : Nat} (S : At s0 h₀ L s m μ) (hk : ∀ b o, s.heap.get? b = some o → h'.get? b = some o) :
    At s0 h₀ L { s with heap := h', toks := tk } m (fun b => if b < s.heap.objs.size then μ b else h'.get? b) := by
  have big := S.sit.L_lt
  refine ⟨⟨⟨S.fr.ns.at' fun o e => hk L o e, fun b o e => hk b o (S.fr.keep b o e), S.fr.above⟩, fun a o e => ?_, fun a o e => ?_, S.sit.big⟩, S.kp⟩
  · by_cases q : a < s.heap.objs.size
    · rw [if_pos q] at e
      exact ⟨hk a o (S.get e), (S.sit.led a o e).2⟩
    · rw [if_neg q] at e
      refine ⟨e, fun z => q (by rw [z]; exact big), ?_⟩
      cases z : h₀.get? a with
      | none => rfl
      | some x => exact absurd (Heap.lt_size (S.fr.keep a x z)) q
  · by_cases q : a < s.heap.objs.size
    · rw [if_pos q] at e
      exact S.sit.low a o e
    · have b1 : sysModules < L := S.sit.big
      exact beq_eq_false_iff_ne.mpr fun z => q (by rw [z]; exact Nat.lt_trans b1 big)
theorem grab_ext {h' : Heap} (S : At s0 h₀ L s m μ) : Ext μ (fun b => if b < s.heap.objs.size then μ b else h'.get? b) := fun a o e => by
  show (if a < s.heap.objs.size then μ a else h'.get? a) = some o
  rw [if_pos (S.sit.lt e)]; exact e
theorem At.ofNews {h' : Heap} {tk : Nat} {a : Addr} {o : Obj} (S : At s0 h₀ L s m μ) (F : Fr h₀ L h' m) (N : News h₀ L h' ((a, o) :: lst μ s.heap.objs.size)) (ha : s.heap.objs.size ≤ a) : At s0 h₀ L { s with heap := h', toks := tk } m (put μ a o) := by
  have n0 : μ a = none := by
    cases q : μ a with
    | none => rfl
    | some x => exact absurd (S.sit.lt q) (Nat.not_lt.mpr ha)
  have big := S.sit.L_lt
  have b1 : sysModules < L := S.sit.big
  refine ⟨⟨F, fun b x e => ?_, fun b x e => ?_, S.sit.big⟩, S.kp⟩
  · by_cases q : b = a
    · subst q; rw [put_self] at e; cases e; exact N (b, o) (.head _)
    · rw [put_ne q] at e; exact N (b, x) (.tail _ (mem_lst.mpr ⟨S.sit.lt e, e⟩))
  · by_cases q : b = a
    · exact beq_eq_false_iff_ne.mpr fun z => absurd ha (Nat.not_le.mpr (by rw [← q, z]; exact Nat.lt_trans b1 big))
    · rw [put_ne q] at e; exact S.sit.low b x e
theorem At.new_at {a : Addr} (S : At s0 h₀ L s m μ) (ha : s.heap.objs.size ≤ a) : μ a = none := by
  cases q : μ a with
  | none => rfl
  | some x => exact absurd (S.sit.lt q) (Nat.not_lt.mpr ha)

theorem sliceR {value : PySem.Expr} {lower upper : Option PySem.Expr} {sp pos : Pos} {Q : Value → Shared → Prop}
    (h : wpAny (model P0 w) A (eval value env) (fun o s₁ => wpAny (model P0 w) A (evalPart lower env) (fun vl s₂ => wpAny (model P0 w) A (evalPart upper env) (fun vu s₃ =>
      ∃ l items lo hi m μ, o = .ref l ∧ At s0 h₀ L s₃ m μ ∧ s₃.heap.IsList l items ∧ items.size ≤ sizeLine ∧ IsPart vl lo ∧ IsPart vu hi ∧
        ∀ D oD s', μ D = none → At s0 h₀ L s' m (put μ D oD) → LO (slicePick items lo hi none).toList oD → Q (.ref D) s') E s₂) E s₁) E s)
    (ht : ∀ o r, letTemporaryGo value o r = pure () := by intro _ _; rfl) :
    wpAny (model P0 w) A (eval (.Subscript value (.Slice lower upper none sp) pos) env) Q E s := by
  refine wpAny_Subscript_list_slice (wpAny_mono h (fun o s₁ h₁ => wpAny_mono h₁ (fun vl s₂ h₂ => wpAny_mono h₂ (fun vu s₃ h₃ => ?_) fun _ _ e => e) fun _ _ e => e) fun _ _ e => e) ht
  obtain ⟨l, items, lo, hi, m, μ, rfl, S, hl, hsz, pl, pu, hQ⟩ := h₃
  refine ⟨l, items, lo, hi, rfl, hl, hsz, pl, pu, ?_⟩
  have S1 : At s0 h₀ L { s₃ with heap := s₃.heap.push { cls := .type "slice", data := .fields #[vl, vu, .none] } } m _ := ⟨S.sit.push { cls := .type "slice", data := .fields #[vl, vu, .none] }, S.kp⟩
  have S2 := (S1.sit.push { cls := .type "list", data := .seq (slicePick items lo hi none) })
  rw [show (s₃.heap.push { cls := .type "slice", data := .fields #[vl, vu, .none] } : Heap).objs.size = s₃.heap.objs.size + 1 from Heap.size_push ..] at S2
  have n0 := S.new_at (a := s₃.heap.objs.size) (Nat.le_refl _)
  have n1 := S.new_at (a := s₃.heap.objs.size + 1) (Nat.le_succ _)
  refine hQ _ { cls := .type "list", data := .seq (slicePick items lo hi none) } _ n1 ⟨S2.sub fun b o e => ?_, S.kp⟩ ⟨rfl, 0, rfl⟩
  by_cases q : b = s₃.heap.objs.size + 1
  · subst q; rw [put_self] at e ⊢; exact e
  · rw [put_ne q] at e ⊢
    rw [put_ne (fun z => by rw [z, n0] at e; cases e)]; exact e

theorem addL {l b : Addr} {ol ob : Obj} {vs ws : List Value} {Q : Value → Shared → Prop} (S : At s0 h₀ L s m μ) (el : μ l = some ol) (hl : LO vs ol) (eb : μ b = some ob) (hb : LO ws ob) (hsz : vs.length + ws.length ≤ sizeLine)
    (h : ∀ D oD s', μ D = none → At s0 h₀ L s' m (put μ D oD) → LO (vs ++ ws) oD → Q (.ref D) s') : wpAny (model P0 w) A (binaryOp .Add (.ref l) (.ref b)) Q E s :=
  add_lists S.fr S.sit.news (hl.isList (S.get el)) (hb.isList (S.get eb)) (fun h' F N => h _ _ _ S.sit.new_none (S.ofNews F N (Nat.le_refl _)) ⟨rfl, 0, rfl⟩) hsz

theorem sortedL {l : Addr} {ol : Obj} {vs : List Value} {ns : List Int} {Q : Value → Shared → Prop} (S : At s0 h₀ L s m μ) (el : μ l = some ol) (hl : LO vs ol) (hi : IntsAre vs ns) (h64 : vs.length < 64)
    (h : ∀ D oD s' vs' ns', μ D = none → At s0 h₀ L s' m (put μ D oD) → LO vs' oD → IntsAre vs' ns' → ns'.Perm ns → ns'.Pairwise (· ≤ ·) → Q (.ref D) s') : wpAny (model P0 w) A (call (.builtin "sorted") [.ref l]) Q E s :=
  sorted_N S.fr S.sit.news (hl.isList (S.get el)) hi h64 fun h' vs' ns' e F N a1 a2 a3 => h _ _ _ vs' ns' (S.new_at (Nat.le_succ _)) (S.ofNews F N (Nat.le_succ _)) ⟨rfl, _, rfl⟩ a1 a2 a3

theorem notInL {l : Addr} {ol : Obj} {vs : List Value} {ns : List Int} {x : Int} {t : Tok} {Q : Value → Shared → Prop} (S : At s0 h₀ L s m μ) (el : μ l = some ol) (hl : LO vs ol) (hi : IntsAre vs ns)
    (h : Q (.bool (decide (x ∉ ns))) s) : wpAny (model P0 w) A (compareOp .NotIn (.int x t) (.ref l)) Q E s := by
  have hm : ∀ {vs : List Value} {ns : List Int}, IntsAre vs ns → ∀ y ∈ vs, ∃ n t, y = .int n t := fun h => by
    induction h with
    | nil => intro y hy; cases hy
    | cons n t r ih =>
      intro y hy
      rcases List.mem_cons.mp hy with rfl | hy
      · exact ⟨_, _, rfl⟩
      · exact ih y hy
  refine SeqAt.notIn_listAt (isInt x) (hl.isList (S.get el)) (fun y hy => ?_) ?_
  · obtain ⟨n, t', rfl⟩ := hm hi y (by simpa using hy)
    exact SeqAt.EqAt.int_int n t' x t
  · have : vs.toArray.any (isInt x) = ns.any (· == x) := by rw [List.any_toArray, any_isInt x hi]
    rw [this]
    have e : (!ns.any (· == x)) = decide (x ∉ ns) := by
      rw [Bool.eq_iff_iff]
      simp
      exact ⟨fun h q => h x q rfl, fun h y hy e => h (e ▸ hy)⟩
    rw [e]; exact h

theorem allTrue_ (n : Nat) : (List.range n).all (fun _ => true) = true := List.all_eq_true.mpr fun _ _ => rfl
theorem neLs {l b : Addr} {ol ob : Obj} {vs ws : List Value} {Q : Value → Shared → Prop} (S : At s0 h₀ L s m μ) (el : μ l = some ol) (hl : LO vs ol) (eb : μ b = some ob) (hb : LO ws ob) (hlen : vs.length = ws.length) (hu : A.units < cLine)
    (he : ∀ (j : Nat) (h1 : j < vs.length) (h2 : j < ws.length), SeqAt.EqAt A.in1 s vs[j] ws[j] true) (h : Q (.bool false) s) : wpAny (model P0 w) A (compareOp .NotEq (.ref l) (.ref b)) Q E s := by
  have := SeqAt.RcNeAt.lists (e := fun _ => true) (hl.isList (S.get el)) (hb.isList (S.get eb)) (by simpa using hlen) hu (fun j h1 h2 => he j (by simpa using h1) (by simpa using h2))
  refine this P0 w E Q ?_
  rw [allTrue_]; exact h
theorem eqInts_ {l b : Addr} {A : Around} {ol ob : Obj} {vs ws : List Value} {ns : List Int} (S : At s0 h₀ L s m μ) (el : μ l = some ol) (hl : LO vs ol) (eb : μ b = some ob) (hb : LO ws ob) (hi : IntsAre vs ns) (hj : IntsAre ws ns) (hu : A.units < cLine) : SeqAt.EqAt A s (.ref l) (.ref b) true := by
  by_cases q : l = b
  · subst q; exact SeqAt.EqAt.same _
  · have hk : vs.length = ws.length := hi.length.trans hj.length.symm
    have hget : ∀ {vs : List Value} {ns : List Int}, IntsAre vs ns → ∀ (j : Nat) (h : j < vs.length), ∃ t, ∃ h' : j < ns.length, vs[j] = .int ns[j] t := fun h => by
      induction h with
      | nil => intro j h; simp at h
      | cons n t r ih =>
        intro j h
        cases j with
        | zero => exact ⟨t, by simp, rfl⟩
        | succ j =>
          obtain ⟨t', h', e⟩ := ih j (by simpa using h)
          exact ⟨t', by simpa using h', by simpa using e⟩
    have := SeqAt.RcAt.lists (A := A) (s := s) (e := fun _ => true) (hl.isList (S.get el)) (hb.isList (S.get eb)) (by simpa using hk) hu (fun j h1 h2 => by
      obtain ⟨t1, _, e1⟩ := hget hi j (by simpa using h1)
      obtain ⟨t2, _, e2⟩ := hget hj j (by simpa using h2)
      have := SeqAt.EqAt.int_int (A := A.in1) (s := s) ns[j] t1 ns[j] t2
      rw [beq_self_eq_true] at this
      simpa [e1, e2] using this)
    refine SeqAt.EqAt.of_refs q ?_
    rw [allTrue_] at this; exact this
end
end Mine
end
section -- Items
open PySem PySem.W PySem.Calls PyProof.Rows PyProof.V PySem.Spec
set_option maxRecDepth 100000
set_option linter.unusedVariables false
namespace Mine
def ItL (μ : Mu) (l : Addr) (ks : List Int) (la : Int → Addr) : Prop :=
  ∃ (ol : Obj) (as : List Addr), μ l = some ol ∧ LO (as.map Value.ref) ol ∧ as.length = ks.length ∧ ∀ (j : Nat) (a : Addr) (v : Int), as[j]? = some a → ks[j]? = some v → ∃ t, μ a = some { cls := .type "tuple", data := .seq #[.int v t, .ref (la v)] }
theorem ItL.mono {μ μ' : Mu} {l : Addr} {ks : List Int} {la : Int → Addr} (x : ItL μ l ks la) (h : Ext μ μ') : ItL μ' l ks la := by
  obtain ⟨ol, as, e, hl, hlen, r⟩ := x
  exact ⟨ol, as, h _ _ e, hl, hlen, fun j a v ha hv => let ⟨t, q⟩ := r j a v ha hv; ⟨t, h _ _ q⟩⟩
section
variable {w : World} {K : Frag} {p : Program} {loose : List Str} {mean : ExcName → Option Value} {mg mb : Str → Option Value}
variable {A A' : Around} {env env' : Env} {h₀ : Heap} {L d : Addr} {od : Obj} {m : Str → Option Value} {μ μ' : Mu} {s0 : Anc} {s : Shared} {E : Value → Shared → Prop} {ks : List Int} {la : Int → Addr}

theorem itemsM {pl : Sem Bool} {kvs : List (Int × Value)} {Q : Value × List Value → Shared → Prop} (S : At s0 h₀ L s m μ) (e : μ d = some od) (hd : od.IsDictOf (ik w) kvs) (h : Q (.builtin "dict.items", [.ref d]) s) : wpAny (model P0 w) A (getMethod (.ref d) "items" pl) Q E s :=
  have hD := S.dict e hd
  getMethod_builtin hD.typeIs PySem.F.plainAttrs_dict PySem.F.slot_dict_items PySem.F.type_dict_items hD.mapOf.noDict h
abbrev viewO (d : Addr) : Obj := { cls := .type "dict_items", data := .fields #[.ref d] }
theorem itemsC {kvs : List (Int × Value)} {Q : Value → Shared → Prop} (S : At s0 h₀ L s m μ) (e : μ d = some od) (hd : od.IsDictOf (ik w) kvs)
    (h : ∀ r s', μ r = none → At s0 h₀ L s' m (put μ r (viewO d)) → Q (.ref r) s') : wpAny (model P0 w) A (call (.builtin "dict.items") [.ref d]) Q E s := by
  have hD := S.dict e hd
  refine call_meetsIn PySem.F.slot_dict_items hD.typeIs PySem.F.entry_dict_items (PySem.F.args_dict_items_1 _) (meets_dict_items (ik w) d (S.low e)) ⟨⟨kvs, hD⟩, ?_⟩
  exact h _ _ S.sit.new_none ⟨S.sit.push (viewO d), S.kp⟩
theorem itemsL {r : Addr} {Q : Value → Shared → Prop} (S : At s0 h₀ L s m μ) (hh : A.handled = none) (er : μ r = some (viewO d)) (e : μ d = some od) (hd : od.IsDictOf (ik w) (ks.map fun v => (v, Value.ref (la v)))) (hsz : ks.length ≤ 60)
    (h : ∀ l s' μ', At s0 h₀ L s' m μ' → Ext μ μ' → ItL μ' l ks la → Q (.ref l) s') : wpAny (model P0 w) A (call (.type "list") [.ref r]) Q E s := by
  obtain ⟨ep, hD⟩ := (S.dict e hd).dictAt
  refine kdx_call (knd := ik w) hh ⟨_, S.get er, rfl, rfl⟩ hD (by simpa using le_line (show ks.length ≤ 100 by omega)) fun h' tk acc c as hk hl hlen G hacc => ?_
  have S' := S.grab (tk := tk) hk
  refine h s.heap.objs.size _ _ S' (grab_ext S) ⟨{ cls := .type "list", dict := none, data := .seq acc c, slots := #[] }, as, ?_, ⟨rfl, c, by rw [← hacc]⟩, by simpa using hlen, fun j a v ha hv => ?_⟩
  · show (if s.heap.objs.size < s.heap.objs.size then μ _ else h'.get? _) = _
    rw [if_neg (Nat.lt_irrefl _)]; exact hl
  · obtain ⟨key, k, x, hx, hkey, hg⟩ := G.pairs j a ha
    rw [List.getElem?_map, hv] at hx
    cases hx
    obtain ⟨t, rfl⟩ := isInt_of hkey
    refine ⟨t, ?_⟩
    show (if a < s.heap.objs.size then μ _ else h'.get? _) = _
    rw [if_neg (Nat.not_lt.mpr (Nat.le_of_lt (G.above a (List.mem_of_getElem? ha)))), hg]
theorem neItems {l b d' : Addr} {rows : Int → List Int} {la lb : Int → Addr} {Q : Value → Shared → Prop} (S : At s0 h₀ L s m μ) (x : ItL μ l ks la) (y : ItL μ b ks lb) (ea : Emb w μ d ks rows la) (eb : Emb w μ d' ks rows lb) (hu : A.units + 64 < cLine)
    (h : Q (.bool false) s) : wpAny (model P0 w) A (compareOp .NotEq (.ref l) (.ref b)) Q E s := by
  obtain ⟨ol, as, e1, l1, n1, r1⟩ := x
  obtain ⟨ob, bs, e2, l2, n2, r2⟩ := y
  refine neLs S e1 l1 e2 l2 (by simp [n1, n2]) (by omega) (fun j h1 h2 => ?_) h
  have j1 : j < as.length := by simpa using h1
  have j2 : j < bs.length := by simpa using h2
  have jk : j < ks.length := by omega
  obtain ⟨t1, q1⟩ := r1 j as[j] ks[j] (List.getElem?_eq_getElem j1) (List.getElem?_eq_getElem jk)
  obtain ⟨t2, q2⟩ := r2 j bs[j] ks[j] (List.getElem?_eq_getElem j2) (List.getElem?_eq_getElem jk)
  rw [List.getElem_map, List.getElem_map]
  by_cases q : as[j] = bs[j]
  · rw [q]; exact SeqAt.EqAt.same _
  refine SeqAt.EqAt.of_refs q ?_
  have hv : ks[j] ∈ ks := List.getElem_mem jk
  obtain ⟨o1, v1, g1, lo1, i1⟩ := ea.2 _ hv
  obtain ⟨o2, v2, g2, lo2, i2⟩ := eb.2 _ hv
  have := SeqAt.RcAt.tuples (A := A.in1) (s := s) (e := fun _ => true) ⟨_, S.get q1, rfl, 0, rfl⟩ ⟨_, S.get q2, rfl, 0, rfl⟩ (by show A.units + 1 < _; omega) (fun i h1 h2 => by
    match i, h1 with
    | 0, _ =>
      have := SeqAt.EqAt.int_int (A := A.in1.in1) (s := s) ks[j] t1 ks[j] t2
      rw [beq_self_eq_true] at this
      exact this
    | 1, _ => exact eqInts_ S g1 lo1 g2 lo2 i1 i2 (by show A.units + 1 + 1 < _; omega))
  rw [allTrue_] at this
  exact this
end
end Mine
end
section -- LawA
open PySem PySem.W PySem.Calls PyProof.Rows PyProof.V PySem.Spec
set_option maxRecDepth 100000
set_option linter.unusedVariables false
namespace Mine
def CellIs (μ : Mu) (c : Addr) (v : Option Value) : Prop := ∃ o, μ c = some o ∧ CellO v o
section
variable {w : World} {μ μ' : Mu} {ad ad' : Adr} {G G' : PE} {c d st : Addr} {v v' : Option Value} {o oc : Obj} {rows : Int → List Int} {la : Int → Addr} {ks : List Int} {ns : List Int}
theorem CellIs.mono (x : CellIs μ c v) (h : Ext μ μ') : CellIs μ' c v := let ⟨o, e, r⟩ := x; ⟨o, h _ _ e, r⟩
theorem CellIs.put_ne {a : Addr} {o : Obj} (x : CellIs μ c v) (h : c ≠ a) : CellIs (put μ a o) c v := let ⟨o, e, r⟩ := x; ⟨o, (Mine.put_ne h).trans e, r⟩
theorem Cont.noCell {r : Role} {o : Obj} (h : Cont w ad G r o) {v : Option Value} : o.data ≠ .cell v := by
  have dk : ∀ {KK : Type} [DecidableEq KK] {knd : KeyKind P0 w KK} {kvs : List (KK × Value)}, o.IsDictOf knd kvs → o.data ≠ .cell v := fun h q => by
    obtain ⟨es, ep, hx⟩ := h
    have := hx.2.1
    rw [q] at this; cases this
  cases r with
  | x => rw [show o = instObj 906 (ad .dd) from h]; intro q; cases q
  | dd => obtain ⟨es, n, rfl, _⟩ := h; intro q; cases q
  | nd => obtain ⟨kvs, h, _⟩ := h; exact dk h
  | sd => exact dk (show o.IsDictOf _ _ from h)
  | pd => exact dk (show o.IsDictOf _ _ from h)
  | S v => exact dk (show o.IsDictOf _ _ from h)
  | P v => obtain ⟨kvs, h, _⟩ := h; exact dk h
  | D v k => obtain ⟨kvs, _, _, h, _⟩ := h; exact dk h
theorem CellIs.off (x : CellIs μ c v) (D : Dr w μ ad G) : ¬ Fp ad G c := by
  obtain ⟨o, e, h⟩ := x
  rintro ⟨r, l, rfl⟩
  obtain ⟨o', e', k⟩ := D.at_ r l
  rw [e] at e'; cases e'
  exact k.noCell h
theorem LO.off {l : Addr} {vs : List Value} (h : LO vs o) (e : μ l = some o) (D : Dr w μ ad G) : ¬ Fp ad G l := D.off_cls e (by rw [h.1]; simp) (by rw [h.1]; simp)
theorem dict_noCell {KK : Type} [DecidableEq KK] {knd : KeyKind P0 w KK} {kvs : List (KK × Value)} (h : o.IsDictOf knd kvs) : o.data ≠ .cell v := fun q => by
  obtain ⟨es, ep, hx⟩ := h
  have := hx.2.1
  rw [q] at this; cases this
theorem LO.noCell {vs : List Value} (h : LO vs o) : o.data ≠ .cell v := fun q => by
  obtain ⟨_, n, e⟩ := h
  rw [q] at e; cases e
theorem Emb.putC {x : Obj} (E : Emb w μ d ks rows la) (h : CellIs μ c v) : Emb w (put μ c x) d ks rows la := by
  obtain ⟨⟨od, e, hd⟩, r⟩ := E
  obtain ⟨oc, ec, hc⟩ := h
  refine ⟨⟨od, (put_ne fun q => ?_).trans e, hd⟩, fun u hu => ?_⟩
  · rw [q, ec] at e; cases e; exact dict_noCell hd hc
  · obtain ⟨ol, vs, e, a, b⟩ := r u hu
    refine ⟨ol, vs, (put_ne fun q => ?_).trans e, a, b⟩
    rw [q, ec] at e; cases e; exact a.noCell hc
theorem Emb.step (E : Emb w μ d ks rows la) (D : Dr w μ ad G) (T : Step μ ad G μ' ad' G') (nd : ¬ Fp ad G d) : Emb w μ' d ks rows la := by
  obtain ⟨⟨od, e, hd⟩, r⟩ := E
  exact ⟨⟨od, T.keep _ _ e nd, hd⟩, fun u hu => let ⟨ol, vs, e, a, b⟩ := r u hu; ⟨ol, vs, T.keep _ _ e (a.off e D), a, b⟩⟩
theorem CellIs.step (x : CellIs μ c v) (D : Dr w μ ad G) (T : Step μ ad G μ' ad' G') : CellIs μ' c v := let ⟨o, e, r⟩ := x; ⟨o, T.keep _ _ e (x.off D), r⟩
theorem StM.step (x : StM μ st ns) (D : Dr w μ ad G) (T : Step μ ad G μ' ad' G') : StM μ' st ns := by
  obtain ⟨scr, o, oscr, ws, i, t1, hh, t2, hst, hlo, hscr, hlos, r⟩ := x
  exact ⟨scr, o, oscr, ws, i, t1, hh, t2, T.keep _ _ hst (hlo.off hst D), hlo, T.keep _ _ hscr (hlos.off hscr D), hlos, r⟩
theorem StM.mono (x : StM μ st ns) (h : Ext μ μ') : StM μ' st ns := by
  obtain ⟨scr, o, oscr, ws, i, t1, hh, t2, hst, hlo, hscr, hlos, r⟩ := x
  exact ⟨scr, o, oscr, ws, i, t1, hh, t2, h _ _ hst, hlo, h _ _ hscr, hlos, r⟩
theorem StM.putC {x : Obj} (z : StM μ st ns) (h : CellIs μ c v) : StM (put μ c x) st ns := by
  obtain ⟨scr, o, oscr, ws, i, t1, hh, t2, hst, hlo, hscr, hlos, r⟩ := z
  obtain ⟨oc, ec, hc⟩ := h
  refine ⟨scr, o, oscr, ws, i, t1, hh, t2, (put_ne fun q => ?_).trans hst, hlo, (put_ne fun q => ?_).trans hscr, hlos, r⟩
  · rw [q, ec] at hst; cases hst; exact hlo.noCell hc
  · rw [q, ec] at hscr; cases hscr; exact hlos.noCell hc
theorem StM.off (x : StM μ st ns) (D : Dr w μ ad G) : ¬ Fp ad G st := by
  obtain ⟨scr, o, oscr, ws, i, t1, hh, t2, hst, hlo, r⟩ := x
  exact hlo.off hst D
theorem StM.some (x : StM μ st ns) : ∃ o, μ st = some o ∧ o.cls = .type "list" := by
  obtain ⟨scr, o, oscr, ws, i, t1, hh, t2, hst, hlo, r⟩ := x
  exact ⟨o, hst, hlo.1⟩
theorem ext_del2 {x : Addr} (h : Ext μ μ') : Ext (del μ x) (del μ' x) := fun a o e => by
  by_cases q : a = x
  · subst q; unfold Mine.del at e; rw [if_pos rfl] at e; cases e
  · rw [del_ne q] at e ⊢; exact h a o e
theorem del_le {x : Addr} : Ext (del μ x) μ := fun a o e => by
  by_cases q : a = x
  · subst q; unfold Mine.del at e; rw [if_pos rfl] at e; cases e
  · rwa [del_ne q] at e
theorem del_put {x : Addr} {o : Obj} : del (put μ x o) x = del μ x := by
  funext a
  by_cases q : a = x
  · subst q; simp [del]
  · rw [del_ne q, del_ne q, put_ne q]
theorem del_put_ne {x a : Addr} {o : Obj} (h : a ≠ x) : del (put μ a o) x = put (del μ x) a o := by
  funext b
  by_cases q : b = x
  · subst q; rw [put_ne (Ne.symm h)]; simp [del]
  · by_cases z : b = a
    · subst z; rw [del_ne q, put_self, put_self]
    · rw [del_ne q, put_ne z, put_ne z, del_ne q]

theorem Dr.rest (D : Dr w μ' ad' G') (T : Step μ ad G μ' ad' G') (n : ¬ Fp ad G st) (hs : μ st = some o) : Dr w (del μ' st) ad' G' := D.mono fun r l x e => by
  refine (del_ne fun q => ?_).trans e
  rcases T.grow _ ⟨r, l, q⟩ with f | f
  · exact n f
  · rw [hs] at f; cases f

structure LawI (w : World) (ns : List Int) (st cD cT cA cR : Addr) (μ : Mu) (ad : Adr) (G : PE) (rows : Int → List Int) (d : Addr) (la : Int → Addr) (va vr : Option Value) : Prop where
  stm : StM μ st ns
  dr : Dr w (del μ st) ad G
  same : G.Same
  rws : Rows G rows
  emb : Emb w (del μ st) d G.ks rows la
  nd : ¬ Fp ad G d
  cD : CellIs (del μ st) cD (some (.ref (ad .x)))
  cT : CellIs (del μ st) cT (some (.ref d))
  cA : CellIs (del μ st) cA va
  cR : CellIs (del μ st) cR vr
variable {cD cT cA cR : Addr} {va vr : Option Value}
theorem LawI.D (I : LawI w ns st cD cT cA cR μ ad G rows d la va vr) : Dr w μ ad G := I.dr.mono fun r l o e => del_le _ _ e
theorem LawI.E (I : LawI w ns st cD cT cA cR μ ad G rows d la va vr) : Emb w μ d G.ks rows la := I.emb.mono del_le
theorem LawI.mono (I : LawI w ns st cD cT cA cR μ ad G rows d la va vr) (h : Ext μ μ') : LawI w ns st cD cT cA cR μ' ad G rows d la va vr :=
  ⟨I.stm.mono h, I.dr.mono fun r l o e => (ext_del2 h) _ _ e, I.same, I.rws, I.emb.mono (ext_del2 h), I.nd, I.cD.mono (ext_del2 h), I.cT.mono (ext_del2 h), I.cA.mono (ext_del2 h), I.cR.mono (ext_del2 h)⟩
theorem LawI.next {o : Obj} (I : LawI w ns st cD cT cA cR μ ad G rows d la va vr) (h : StM (put μ st o) st ns) : LawI w ns st cD cT cA cR (put μ st o) ad G rows d la va vr := by
  refine ⟨h, ?_, I.same, I.rws, ?_, I.nd, ?_, ?_, ?_, ?_⟩ <;> rw [del_put]
  · exact I.dr
  · exact I.emb
  · exact I.cD
  · exact I.cT
  · exact I.cA
  · exact I.cR
theorem CellIs.ne_st (x : CellIs (del μ st) c v) : c ≠ st := fun q => by
  obtain ⟨o, e, _⟩ := x
  subst q; unfold Mine.del at e; rw [if_pos rfl] at e; cases e
theorem LawI.setA {o : Obj} {v : Value} (I : LawI w ns st cD cT cA cR μ ad G rows d la va vr) (ho : CellO (some v) o) (n1 : cD ≠ cA) (n2 : cT ≠ cA) (n3 : cR ≠ cA) : LawI w ns st cD cT cA cR (put μ cA o) ad G rows d la (some v) vr := by
  have hne := I.cA.ne_st
  refine ⟨I.stm.putC (I.cA.mono del_le), ?_, I.same, I.rws, ?_, I.nd, ?_, ?_, ?_, ?_⟩ <;> rw [del_put_ne hne]
  · exact I.dr.off (I.cA.off I.dr)
  · exact I.emb.putC I.cA
  · exact I.cD.put_ne n1
  · exact I.cT.put_ne n2
  · exact ⟨o, put_self, ho⟩
  · exact I.cR.put_ne n3
theorem LawI.setR {o : Obj} {v : Value} (I : LawI w ns st cD cT cA cR μ ad G rows d la va vr) (ho : CellO (some v) o) (n1 : cD ≠ cR) (n2 : cT ≠ cR) (n3 : cA ≠ cR) : LawI w ns st cD cT cA cR (put μ cR o) ad G rows d la va (some v) := by
  have hne := I.cR.ne_st
  refine ⟨I.stm.putC (I.cR.mono del_le), ?_, I.same, I.rws, ?_, I.nd, ?_, ?_, ?_, ?_⟩ <;> rw [del_put_ne hne]
  · exact I.dr.off (I.cR.off I.dr)
  · exact I.emb.putC I.cR
  · exact I.cD.put_ne n1
  · exact I.cT.put_ne n2
  · exact I.cA.put_ne n3
  · exact ⟨o, put_self, ho⟩
structure LawJ (w : World) (ns : List Int) (st cD cT cA cR : Addr) (μ : Mu) (ad : Adr) (G G' : PE) (rows : Int → List Int) (d : Addr) (la : Int → Addr) (va vr : Option Value) : Prop where
  stm : StM μ st ns
  dr : Dr w (del μ st) ad G'
  emb : Emb w (del μ st) d G.ks rows la
  nd : ¬ Fp ad G' d
  cD : CellIs (del μ st) cD (some (.ref (ad .x)))
  cT : CellIs (del μ st) cT (some (.ref d))
  cA : CellIs (del μ st) cA va
  cR : CellIs (del μ st) cR vr
theorem of_keep (hs : μ st = some o) (T : Step μ ad G μ' ad' G') : ∀ a x, del μ st a = some x → ¬ Fp ad G a → del μ' st a = some x := fun a x e n => by
  have q : a ≠ st := fun q => by subst q; unfold Mine.del at e; rw [if_pos rfl] at e; cases e
  rw [del_ne q] at e ⊢
  exact T.keep a x e n
theorem LawI.go (I : LawI w ns st cD cT cA cR μ ad G rows d la va vr) (T : Step μ ad G μ' ad' G') (D' : Dr w μ' ad' G') : LawJ w ns st cD cT cA cR μ' ad' G G' rows d la va vr := by
  obtain ⟨os, hs, _⟩ := I.stm.some
  have k := of_keep hs T
  have D := I.D
  have cell : ∀ {c v}, CellIs (del μ st) c v → CellIs (del μ' st) c v := fun x => let ⟨o, e, r⟩ := x; ⟨o, k _ _ e (x.off I.dr), r⟩
  refine ⟨I.stm.step D T, D'.rest T (I.stm.off D) hs, ?_, fun f => ?_, by rw [T.x]; exact cell I.cD, cell I.cT, cell I.cA, cell I.cR⟩
  · obtain ⟨⟨od, e, hd⟩, r⟩ := I.emb
    exact ⟨⟨od, k _ _ e I.nd, hd⟩, fun u hu => let ⟨ol, vs, e, a, b⟩ := r u hu; ⟨ol, vs, k _ _ e (a.off e I.dr), a, b⟩⟩
  · rcases T.grow _ f with f | f
    · exact I.nd f
    · obtain ⟨⟨od, e, hd⟩, r⟩ := I.E
      rw [e] at f; cases f
end
end Mine
end
section -- LawB
open PySem PySem.W PySem.Calls PyProof.Rows PyProof.V PySem.Spec
set_option maxRecDepth 100000
set_option linter.unusedVariables false
namespace Mine
structure FLaw (K : Frag) : Prop where
  N : FNext K
  F : FAll K
  D : FData K
  M : FMake K
  A : FAddN K
  H : FHas K
  refused : FnIn K 929 "_law_is_refused" "_law_is_refused" (topS 20) [] .none .none
  nNext : nsIn K mainGlobals "_law_next" = some (some (.ref 915))
  kNext : keepIn K (.ref 915) = true
  nPut : nsIn K mainGlobals "_law_put" = some (some (.ref 922))
  kPut : keepIn K (.ref 922) = true
  nRef : nsIn K mainGlobals "_law_is_refused" = some (some (.ref 929))
  kRef : keepIn K (.ref 929) = true
  nPE : nsIn K mainGlobals "PlanarEmbedding" = some (some (.ref 906))
  kPE : keepIn K (.ref 906) = true
  nRange : nsIn K mainGlobals "range" = some none
  nSorted : nsIn K mainGlobals "sorted" = some none
  nLen : nsIn K mainGlobals "len" = some none
  nList : nsIn K mainGlobals "list" = some none
  mHalf : MethIn K "add_half_edge" 825
abbrev lawCells (L : Addr) : List (Str × Addr) := [(("row" : Str), L + 1 + 1 + 1 + 1), (("a" : Str), L + 1 + 1 + 1), (("turns" : Str), L + 1 + 1), (("drawing" : Str), L + 1)]
abbrev lawEnv (L a : Addr) (ccd : Value) : Env := envX "law" (sScope (topS 21)) L a ccd (lawCells L)
abbrev LI (w : World) (ns : List Int) (st L : Addr) (μ : Mu) (ad : Adr) (G : PE) (rows : Int → List Int) (d : Addr) (la : Int → Addr) (va vr : Option Value) : Prop :=
  LawI w ns st (L + 1) (L + 1 + 1) (L + 1 + 1 + 1) (L + 1 + 1 + 1 + 1) μ ad G rows d la va vr

section
variable {w : World} {K : Frag} {p : Program} {loose : List Str} {mean : ExcName → Option Value} {mg mb : Str → Option Value}
variable {A A' : Around} {env env' : Env} {h₀ : Heap} {L : Addr} {m : Str → Option Value} {μ : Mu} {s0 : Anc} {s : Shared} {E : Value → Shared → Prop} {ad : Adr} {G : PE} {R : Result → Shared → Prop}
  {a : Addr} {cn : Str} {cs : Scope} {ccd : Value} {cl : List (Str × Addr)} {ns : List Int} {st d : Addr} {rows : Int → List Int} {la : Int → Addr} {va vr : Option Value}

theorem ksLen (D : Dr w μ ad G) : G.ks.length ≤ 60 := by
  obtain ⟨o, e, c⟩ := D.at_ .sd trivial
  have h := isDict_nodup (show o.IsDictOf _ _ from c)
  rw [fst_map] at h
  have := le5 h D.ok.ks
  omega
theorem methC0 {x nm : Str} {np pos apos : Pos} {f c : Addr} {pl : Sem Bool} {Q : Value → Shared → Prop}
    (S : At s0 h₀ L s m μ) (H : Here K p loose mean mg mb A' env' h₀ L) (FC : FCls K) (D : Dr w μ ad G) (ec : CellIs μ c (some (.ref (ad .x)))) (M : MethIn K nm f) (hnm : nm ∈ meths)
    (h : codeAny (model P0 w) A (.call (.ref f) ⟨[.ref (ad .x)], []⟩) (fun r s' => match r with | .ok (.ret v) => Q v s' | .ok _ => False | .error e => E e s') s)
    (hk : env.scope.kind = .function := by rfl) (hl : env.kindOf x = some .cell := by rfl) (hc : env.cells.lookup x = some c := by rfl) (hd : (x == ("__debug__" : Str)) = false := by decide)
    (he : eval (.Call (.Attribute (.Name x np) nm apos) [] [] pos) env = (do
      let ov ← eval (.Name x np) env
      standAt apos.atName
      let (f, first) ← holding [ov] (getMethod ov nm pl)
      callWith pos f first (backTo pos (starEach [] env)) []) := by rfl) :
    wpAny (model P0 w) A (eval (.Call (.Attribute (.Name x np) nm apos) [] [] pos) env) Q E s := by
  obtain ⟨oc, eo, hoc⟩ := ec
  refine MethodCall_ (pl := pl) (nameCell S eo hoc ?_ hk hl hc hd) he
  obtain ⟨es, n, hD, I⟩ := D.inst S
  refine method_inst S.fr H.X I FC.plain M.1 M.2.1 ?_ (callWith_K0 (H.X.keeps S.fr.keep) M.2.2 (wpAny_call h))
  obtain ⟨es', n', e, _, _, _, _, hno⟩ := hD
  have : es = es' := by
    have h1 : Data.dict es.toArray n = Data.dict es'.toArray n' := congrArg Obj.data e
    injection h1 with h1 _
    simpa using congrArg Array.toList h1
  subst this
  exact hno nm hnm

abbrev MethAs (o : PySem.Expr) (nm : Str) (apos pos : Pos) (pl : Sem Bool) (env : Env) : Prop := eval (.Call (.Attribute o nm apos) [] [] pos) env = (do
      let ov ← eval o env
      standAt apos.atName
      let (f, first) ← holding [ov] (getMethod ov nm pl)
      callWith pos f first (backTo pos (starEach [] env)) [])
theorem itemsNe {p1 p2 p3 p4 p5 p6 p7 q1 q2 q3 q4 q5 : Pos} {pl1 pl2 pl3 : Sem Bool} {Q : Value → Shared → Prop} (F : FLaw K) (H : Here K p loose mean mg mb A (lawEnv L a ccd) h₀ L) (S : At s0 h₀ L s m μ) (hJ : s0.J = AllBare) (I : LI w ns st L μ ad G rows d la va vr)
    (hroom : A.depth + 3 < recursionLimit) (hu : A.units + 64 < cLine)
    (h : ∀ s' μ', At s0 h₀ L s' m μ' → Ext μ μ' → Q (.bool false) s')
    (m1 : MethAs (.Name "drawing" p2) "get_data" p3 p4 pl1 (lawEnv L a ccd) := by rfl)
    (m2 : MethAs (.Call (.Attribute (.Name "drawing" p2) "get_data" p3) [] [] p4) "items" p5 p6 pl2 (lawEnv L a ccd) := by rfl)
    (m3 : MethAs (.Name "turns" q2) "items" q3 q4 pl3 (lawEnv L a ccd) := by rfl) :
    wpAny (model P0 w) A (eval (.Call (.Name "list" p1) [.Call (.Attribute (.Call (.Attribute (.Name "drawing" p2) "get_data" p3) [] [] p4) "items" p5) [] [] p6] [] p7) (lawEnv L a ccd)) (fun x s₁ => wpAny (model P0 w) A (eval (.Call (.Name "list" q1) [.Call (.Attribute (.Name "turns" q2) "items" q3) [] [] q4] [] q5) (lawEnv L a ccd)) (fun y s₂ => wpAny (model P0 w) A (compareOp .NotEq x y) Q E s₂) E s₁) E s := by
  have h60 : G.ks.length ≤ 60 := ksLen I.D
  refine callT "list" S H F.nList (by decide +kernel) (by decide) (wpAny_items_cons (MethodCall_ (pl := pl2) (methC0 (pl := pl1) S H F.F.C I.D (I.cD.mono del_le) F.D.mData (by decide) ?_ (he := m1)) m2))
  refine data_spec F.D F.F.C H S hJ I.D I.same (fun v hv => I.rws.walk v) hroom fun d2 lb s2 μ2 S2 x2 e2 => ?_
  obtain ⟨od2, ed2, hd2⟩ := e2.1
  refine itemsM S2 ed2 hd2 (callWith_method0 (itemsC S2 ed2 hd2 fun r s3 hr S3 => wpAny_items_nil ?_))
  refine itemsL S3 H.hand put_self ((put_ne fun q => by rw [q, hr] at ed2; cases ed2).trans ed2) hd2 h60 fun l s4 μ4 S4 x4 i4 => ?_
  have x24 : Ext μ2 μ4 := fun b o e => x4 _ _ ((put_ne fun q => by rw [q, hr] at e; cases e).trans e)
  have I4 := I.mono ((show Ext μ μ2 from x2).trans x24)
  obtain ⟨odt, edt, hdt⟩ := I4.E.1
  obtain ⟨oT, eT, hT⟩ := I4.cT.mono del_le
  refine callT "list" S4 H F.nList (by decide +kernel) (by decide) (wpAny_items_cons (MethodCall_ (pl := pl3) (nameCell S4 eT hT ?_) m3))
  refine itemsM S4 edt hdt (callWith_method0 (itemsC S4 edt hdt fun r' s5 hr' S5 => wpAny_items_nil ?_))
  refine itemsL S5 H.hand put_self ((put_ne fun q => by rw [q, hr'] at edt; cases edt).trans edt) hdt h60 fun l' s6 μ6 S6 x6 i6 => ?_
  have x46 : Ext μ4 μ6 := fun b o e => x6 _ _ ((put_ne fun q => by rw [q, hr'] at e; cases e).trans e)
  exact neItems S6 (i4.mono x46) i6 ((e2.mono x24).mono x46) (I4.E.mono x46) hu (h _ _ S6 ((show Ext μ μ2 from x2).trans (x24.trans x46)))
end
end Mine
end
section -- Comps
open PySem PySem.W PySem.Calls PyProof.Rows PyProof.V PySem.Spec
set_option maxRecDepth 100000
set_option linter.unusedVariables false
namespace Mine
section
variable {w : World} {K : Frag} {p : Program} {loose : List Str} {mean : ExcName → Option Value} {mg mb : Str → Option Value}
variable {A A' : Around} {env env' : Env} {h₀ : Heap} {L : Addr} {m : Str → Option Value} {μ : Mu} {s0 : Anc} {s : Shared} {E : Value → Shared → Prop} {ad : Adr} {G : PE}

theorem rangeSize_n (n : Nat) : Builtin.Range.rangeSize 0 n 1 = n := by
  unfold Builtin.Range.rangeSize
  rw [if_pos (by omega)]
  split
  · rw [Int.ediv_one]; omega
  · omega
theorem rangeFits {n : Nat} (hn : n ≤ 100) : Builtin.Range.small 0 n 1 = true := by
  have : ∀ k : Nat, k ≤ 100 → Builtin.Range.small 0 k 1 = true := by decide +kernel
  exact this n hn
theorem rangeGo {n : Nat} {t : Tok} {Q : Value → Shared → Prop} (S : At s0 h₀ L s m μ) (hn : n ≤ 100)
    (h : ∀ I oI μ' s', Ext μ μ' → μ' I = none → At s0 h₀ L s' m (put μ' I oI) → RgI 0 n 0 oI → Q (.ref I) s') :
    wpAny (model P0 w) A (call (.type "range") [.int n t]) (fun xv s₁ => wpAny (model P0 w) A (pyIter xv) Q E s₁) E s := by
  refine call_range_1 ?_
  have S1 : At s0 h₀ L { s with heap := s.heap.push { cls := .type "range", data := .fields #[.int 0 s.toks, .int n t, .int 1 (s.toks + 1)] }, toks := s.toks + 1 + 1 } m _ := S.heap (S.sit.push _) _
  refine wpAny_pyIter_range (S1.get put_self) (rangeFits hn) ?_
  refine h _ _ _ _ (Ext.new S.sit.new_none) S1.sit.new_none ⟨S1.sit.push _, S1.kp⟩ ?_
  unfold RgI
  rw [rangeSize_n]
  simp
theorem rangeN {np cp pos : Pos} {Q : Value → Shared → Prop} (S : At s0 h₀ L s m μ) (H : Here K p loose mean mg mb A' env' h₀ L) (hr : nsIn K mainGlobals "range" = some none)
    (h : ∀ I oI μ' s', Ext μ μ' → μ' I = none → At s0 h₀ L s' m (put μ' I oI) → RgI 0 5 0 oI → Q (.ref I) s')
    (hk : env.scope.kind = .function := by rfl) (hl : env.kindOf ("range" : Str) = some .globalImplicit := by rfl) (hg : env.globals = mainGlobals := by rfl) (hb : env.builtins = builtinsNs := by rfl) :
    wpAny (model P0 w) A (eval (.Call (.Name "range" np) [.Constant (.int 5) 0 cp] [] pos) env) (fun xv s₁ => wpAny (model P0 w) A (pyIter xv) Q E s₁) E s := by
  refine Call_ (nameBE S H hr (v := .type "range") (by decide +kernel) (by decide) ?_ hk hl hg hb)
  refine PySem.callWith_type (by rfl) (evalArgs_plain (wpAny_items_cons (cInt S fun t s1 S1 => wpAny_items_nil (rangeGo (n := 5) S1 (by omega) h))))
theorem ifs1 {c : PySem.Expr} {cenv : Env} {Q : Bool → Shared → Prop} (h : wpAny (model P0 w) A (isTrue c cenv (eval c cenv)) Q E s) :
    wpAny (model P0 w) A (forIn [c] true fun c r => if r = true then do let ok ← isTrue c cenv (eval c cenv); pure (ForInStep.yield ok) else pure (ForInStep.yield r)) Q E s := by
  rw [List.forIn_cons]
  simp only [if_true, List.forIn_nil]
  exact wpAny_bind (wpAny_bind (wpAny_mono h (fun b s1 h1 => wpAny_pure (wpAny_pure h1)) fun _ _ z => z))
def srtTo (p : Int → Bool) (i : Nat) : List Int := ((List.range i).map Int.ofNat).filter p
theorem srtTo_succ (p : Int → Bool) (i : Nat) : srtTo p (i + 1) = srtTo p i ++ (if p i then [(i : Int)] else []) := by
  unfold srtTo
  rw [List.range_succ, List.map_append, List.filter_append]
  congr 1
  simp [List.filter_cons]
abbrev scL : Scope := { kind := .function, names := [((".0" : Str), .local), (("a" : Str), .cell), (("range" : Str), .globalImplicit), (("drawing" : Str), .free)], isGenerator := false, isCoroutine := false }
abbrev scI : Scope := { kind := .function, names := [((".0" : Str), .local), (("b" : Str), .local), (("a" : Str), .free), (("drawing" : Str), .free)], isGenerator := false, isCoroutine := false }
abbrev scR : Scope := { kind := .function, names := [((".0" : Str), .local), (("a" : Str), .local), (("sorted" : Str), .globalImplicit), (("turns" : Str), .free)], isGenerator := false, isCoroutine := false }
abbrev scO : Scope := { kind := .function, names := [((".0" : Str), .local), (("b" : Str), .local), (("a" : Str), .free), (("row" : Str), .free)], isGenerator := false, isCoroutine := false }

theorem innerC {cd Cc : Addr} {v : Int} {tv : Tok} {p1 p2 p3 p4 p5 p6 p7 p8 p9 p10 pos : Pos} {pl : Addr → Sem Bool} {Q : Value → Shared → Prop} (F : FLaw K) (H : Here K p loose mean mg mb A env' h₀ L) (S : At s0 h₀ L s m μ) (D : Dr w μ ad G) (cD : CellIs μ cd (some (.ref (ad .x)))) (cA : CellIs μ Cc (some (.int v tv))) (hv : v ∈ G.ks) (hroom : A.depth < recursionLimit)
    (h : ∀ l μ' s' ol vs, At s0 h₀ L s' m (put μ' l ol) → μ' l = none → Ext μ μ' → LO vs ol → IntsAre vs (srtTo (fun b => decide (b ∈ G.ord v)) 5) → Q (.ref l) s')
    (hclos : closureFor scI env = pure [(("drawing" : Str), cd), (("a" : Str), Cc)])
    (hk : env.scope.kind = .function) (hl : env.kindOf ("range" : Str) = some .globalImplicit) (hg : env.globals = mainGlobals) (hb : env.builtins = builtinsNs)
    (kd : ∀ C, (compEnvC scI [(("drawing" : Str), cd), (("a" : Str), Cc)] C env).kindOf ("drawing" : Str) = some .cell) (ka : ∀ C, (compEnvC scI [(("drawing" : Str), cd), (("a" : Str), Cc)] C env).kindOf ("a" : Str) = some .cell)
    (kb : ∀ C, (compEnvC scI [(("drawing" : Str), cd), (("a" : Str), Cc)] C env).kindOf ("b" : Str) = some .local)
    (hs : ∀ x, foldedSetIterable (.Call (.Name "range" p3) [.Constant (.int 5) 0 p4] [] p5) env x = pure x)
    (he : ∀ C, eval (.Call (.Attribute (.Name "drawing" p6) "has_edge" p7) [.Name "a" p8, .Name "b" p9] [] p10) (compEnvC scI [(("drawing" : Str), cd), (("a" : Str), Cc)] C env) = (do
      let ov ← eval (.Name "drawing" p6) (compEnvC scI [(("drawing" : Str), cd), (("a" : Str), Cc)] C env)
      standAt p7.atName
      let (f, first) ← holding [ov] (getMethod ov "has_edge" (pl C))
      callWith p10 f first (backTo p10 (starEach [.Name "a" p8, .Name "b" p9] (compEnvC scI [(("drawing" : Str), cd), (("a" : Str), Cc)] C env))) [])) :
    wpAny (model P0 w) A (eval (.ListComp (.Name "b" p1) [⟨.Name "b" p2, .Call (.Name "range" p3) [.Constant (.int 5) 0 p4] [] p5, [.Call (.Attribute (.Name "drawing" p6) "has_edge" p7) [.Name "a" p8, .Name "b" p9] [] p10], 0⟩] scI pos) env) Q E s := by
  refine compX (s0 := s0) (h₀ := h₀) (L := L) (m := m) hclos (by decide) rfl (by decide) (by rfl) (rangeN S H F.nRange (fun I oI μ1 s1 x1 hI S1 hR => ?_) hk hl hg hb) hs
  refine ⟨I, 5, RgI 0 5, fun _ => True, fun i v => ∃ t, v = .int (0 + (i : Int)) t, fun i ys ν => Ext μ ν ∧ IntsAre ys (srtTo (fun b => decide (b ∈ G.ord v)) i), rfl, ⟨itRange H.hand I 0 5, ⟨μ1, oI, hI, S1, hR, trivial, x1, .nil⟩, by omega, fun i ys ν ν' x q => ⟨q.1.trans x, q.2⟩⟩, ?_, ?_⟩
  · intro C Dd i y ys ν s2 oC E' hi S2 hy eC hC P2 _ _ hx _
    obtain ⟨tb, rfl⟩ := hy
    obtain ⟨m₂, hN, hb2⟩ := hC
    rw [Int.zero_add] at hb2
    have xx : Ext μ ν := P2.1.trans (hx ν)
    have D2 : Dr w ν ad G := D.mono fun r l o e => xx _ _ e
    obtain ⟨ocd, ecd, hcd⟩ := cD.mono xx
    obtain ⟨oca, eca, hca⟩ := cA.mono xx
    refine ifs1 (isTrue_plain (methCA S2 H F.F.C D2 ecd hcd F.H.mHas (by decide) (wpAny_items_cons (nameCell S2 eca hca (wpAny_items_cons (nameLoc S2 eC hN hb2 (wpAny_items_nil ⟨H.X.keeps S2.fr.keep, ?_⟩) rfl (kb C))) rfl (ka C))) rfl (kd C) (he := he C)) ?_)
    · exact has_spec F.H F.F.C H S2 D2 hv hroom fun s3 S3 => wpAny_truthy_bool ⟨ν, S3, Ext.rfl' ν, by
        by_cases q : (i : Int) ∈ G.ord v
        · rw [if_pos (by simpa using q)]
          refine nameLoc S3 eC hN hb2 ⟨ν, S3, Ext.rfl' ν, P2.1, ?_⟩ rfl (kb C)
          rw [srtTo_succ, if_pos (by simpa using q)]
          exact P2.2.append (.cons _ _ .nil)
        · rw [if_neg (by simpa using q)]
          refine ⟨P2.1, ?_⟩
          rw [srtTo_succ, if_neg (by simpa using q), List.append_nil]
          exact P2.2⟩
    · rfl
  · intro l ys ν s2 oD S2 n2 hl2 P2
    exact h l ν s2 oD ys S2 n2 P2.1 hl2 P2.2
end
end Mine
end
section -- Comps2
open PySem PySem.W PySem.Calls PyProof.Rows PyProof.V PySem.Spec
set_option maxRecDepth 100000
set_option linter.unusedVariables false
namespace Mine
def LLp (μ : Mu) (ys : List Value) (rs : List (List Int)) : Prop := ys.length = rs.length ∧ ∀ (j : Nat) (y : Value) (r : List Int), ys[j]? = some y → rs[j]? = some r → ∃ l o vs, y = .ref l ∧ μ l = some o ∧ LO vs o ∧ IntsAre vs r
def LLs (μ : Mu) (l : Addr) (rs : List (List Int)) : Prop := ∃ ol ys, μ l = some ol ∧ LO ys ol ∧ LLp μ ys rs
theorem LLp.mono {μ μ' : Mu} {ys : List Value} {rs : List (List Int)} (x : LLp μ ys rs) (h : Ext μ μ') : LLp μ' ys rs :=
  ⟨x.1, fun j y r a b => let ⟨l, o, vs, e1, e2, e3, e4⟩ := x.2 j y r a b; ⟨l, o, vs, e1, h _ _ e2, e3, e4⟩⟩
theorem LLs.mono {μ μ' : Mu} {l : Addr} {rs : List (List Int)} (x : LLs μ l rs) (h : Ext μ μ') : LLs μ' l rs := let ⟨ol, ys, e, a, b⟩ := x; ⟨ol, ys, h _ _ e, a, b.mono h⟩
theorem LLp.nil {μ : Mu} : LLp μ [] [] := ⟨rfl, fun j y r h => by simp at h⟩
theorem LLp.snoc {μ : Mu} {ys : List Value} {rs : List (List Int)} {l : Addr} {o : Obj} {vs : List Value} {r : List Int} (x : LLp μ ys rs) (e : μ l = some o) (a : LO vs o) (b : IntsAre vs r) : LLp μ (ys ++ [.ref l]) (rs ++ [r]) := by
  refine ⟨by simp [x.1], fun j y r' hy hr => ?_⟩
  rcases Nat.lt_trichotomy j ys.length with q | q | q
  · rw [List.getElem?_append_left q] at hy
    rw [List.getElem?_append_left (by rw [← x.1]; exact q)] at hr
    exact x.2 j y r' hy hr
  · rw [q, List.getElem?_append_right (Nat.le_refl _)] at hy
    rw [q, x.1, List.getElem?_append_right (Nat.le_refl _)] at hr
    simp at hy hr
    exact ⟨l, o, vs, hy.symm, e, a, hr ▸ b⟩
  · rw [List.getElem?_eq_none (by simp; omega)] at hy; cases hy
theorem take_snoc {α : Type} {ks : List α} {i : Nat} {v : α} (h : ks[i]? = some v) {β : Type} (f : α → β) : (ks.take (i + 1)).map f = (ks.take i).map f ++ [f v] := by
  rw [List.take_add_one, h]; simp
section
variable {w : World} {K : Frag} {p : Program} {loose : List Str} {mean : ExcName → Option Value} {mg mb : Str → Option Value}
variable {A A' : Around} {env env' : Env} {h₀ : Heap} {L : Addr} {m : Str → Option Value} {μ : Mu} {s0 : Anc} {s : Shared} {E : Value → Shared → Prop} {ad : Adr} {G : PE}
  {a : Addr} {ccd : Value} {ns : List Int} {st d : Addr} {rows : Int → List Int} {la : Int → Addr} {va vr : Option Value}

theorem neLists {l b : Addr} {rs : List (List Int)} {Q : Value → Shared → Prop} (S : At s0 h₀ L s m μ) (x : LLs μ l rs) (y : LLs μ b rs) (hu : A.units + 64 < cLine) (h : Q (.bool false) s) : wpAny (model P0 w) A (compareOp .NotEq (.ref l) (.ref b)) Q E s := by
  obtain ⟨ol, ys, e1, l1, n1, r1⟩ := x
  obtain ⟨ob, zs, e2, l2, n2, r2⟩ := y
  refine neLs S e1 l1 e2 l2 (by simp [n1, n2]) (by omega) (fun j h1 h2 => ?_) h
  have jr : j < rs.length := by omega
  obtain ⟨a1, o1, v1, q1, g1, m1, i1⟩ := r1 j ys[j] rs[j] (List.getElem?_eq_getElem h1) (List.getElem?_eq_getElem jr)
  obtain ⟨a2, o2, v2, q2, g2, m2, i2⟩ := r2 j zs[j] rs[j] (List.getElem?_eq_getElem h2) (List.getElem?_eq_getElem jr)
  rw [q1, q2]
  exact eqInts_ S g1 m1 g2 m2 i1 i2 (by show A.units + 1 < _; omega)
end
end Mine
end
section -- Comps3
open PySem PySem.W PySem.Calls PyProof.Rows PyProof.V PySem.Spec
set_option maxRecDepth 100000
set_option linter.unusedVariables false
namespace Mine
section
variable {w : World} {K : Frag} {p : Program} {loose : List Str} {mean : ExcName → Option Value} {mg mb : Str → Option Value}
variable {A A' : Around} {env env' : Env} {h₀ : Heap} {L : Addr} {m : Str → Option Value} {μ : Mu} {s0 : Anc} {s : Shared} {E : Value → Shared → Prop} {ad : Adr} {G : PE}
  {a : Addr} {ccd : Value} {ns : List Int} {st d : Addr} {rows : Int → List Int} {la : Int → Addr} {va vr : Option Value}

theorem outerL {p1 p2 p3 p4 p5 p6 p7 p8 p9 p10 p11 p12 p13 pos : Pos} {pl : Addr → Addr → Addr → Sem Bool} {Q : Value → Shared → Prop} (F : FLaw K) (H : Here K p loose mean mg mb A (lawEnv L a ccd) h₀ L) (S : At s0 h₀ L s m μ) (I : LI w ns st L μ ad G rows d la va vr) (hroom : A.depth < recursionLimit)
    (h : ∀ l μ' s', At s0 h₀ L s' m μ' → Ext μ μ' → LLs μ' l (G.ks.map fun v => srtTo (fun b => decide (b ∈ G.ord v)) 5) → Q (.ref l) s')
    (he : ∀ C C' Cc, eval (.Call (.Attribute (.Name "drawing" p6) "has_edge" p7) [.Name "a" p8, .Name "b" p9] [] p10) (compEnvC scI [(("drawing" : Str), L + 1), (("a" : Str), Cc)] C' (cellEnv scL [(("drawing" : Str), L + 1)] "a" C Cc (lawEnv L a ccd))) = (do
      let ov ← eval (.Name "drawing" p6) (compEnvC scI [(("drawing" : Str), L + 1), (("a" : Str), Cc)] C' (cellEnv scL [(("drawing" : Str), L + 1)] "a" C Cc (lawEnv L a ccd)))
      standAt p7.atName
      let (f, first) ← holding [ov] (getMethod ov "has_edge" (pl C C' Cc))
      callWith p10 f first (backTo p10 (starEach [.Name "a" p8, .Name "b" p9] (compEnvC scI [(("drawing" : Str), L + 1), (("a" : Str), Cc)] C' (cellEnv scL [(("drawing" : Str), L + 1)] "a" C Cc (lawEnv L a ccd))))) []) := by intro _ _ _; rfl) :
    wpAny (model P0 w) A (eval (.ListComp (.ListComp (.Name "b" p1) [⟨.Name "b" p2, .Call (.Name "range" p3) [.Constant (.int 5) 0 p4] [] p5, [.Call (.Attribute (.Name "drawing" p6) "has_edge" p7) [.Name "a" p8, .Name "b" p9] [] p10], 0⟩] scI p11) [⟨.Name "a" p12, .Name "turns" p13, [], 0⟩] scL pos) (lawEnv L a ccd)) Q E s := by
  obtain ⟨odt, edt, hdt⟩ := I.E.1
  obtain ⟨oT, eT, hT⟩ := I.cT.mono del_le
  have h60 := ksLen I.D
  refine compXC (s0 := s0) (h₀ := h₀) (L := L) (m := m) (f := "drawing") (gg := "range") (cl := [(("drawing" : Str), L + 1)]) (by rfl) (by rfl) rfl (by rfl) (by decide) (nameCell S eT hT ?_) (by intro _; rfl)
  obtain ⟨ep, ha⟩ := KdkAt.of hdt
  refine dIter S edt ha fun J oJ s1 hJ0 S1 hK => ?_
  refine ⟨J, _, _, _, _, fun i ys ν => Ext μ ν ∧ LLp ν ys ((G.ks.take i).map fun v => srtTo (fun b => decide (b ∈ G.ord v)) 5), rfl,
    ⟨itKeys (knd := ik w) (kvs := G.ks.map fun v => (v, Value.ref (la v))) (ep := ep) H.hand J d, ⟨μ, oJ, hJ0, S1, hK, ⟨odt, edt, ha⟩, Ext.rfl' μ, by simpa using LLp.nil⟩, by simpa using Nat.le_trans h60 (by decide), fun i ys ν ν' x q => ⟨q.1.trans x, q.2.mono x⟩⟩, ?_, ?_⟩
  · intro C Cc Dd i y ys ν s2 oC E' hi S2 hy eC hC P2 _ hn hx hf
    obtain ⟨k, x, hkx, hky⟩ := hy
    rw [List.getElem?_map] at hkx
    obtain ⟨v, hv, hvk⟩ := Option.map_eq_some_iff.mp hkx
    cases hvk
    obtain ⟨tv, rfl⟩ := isInt_of hky
    have xx : Ext μ ν := P2.1.trans (hx ν)
    have I2 := I.mono xx
    rw [List.forIn_nil]
    refine wpAny_pure ⟨ν, S2, Ext.rfl' ν, ?_⟩
    rw [if_pos rfl]
    refine innerC (pl := fun C' => pl C C' Cc) (v := k) (cd := L + 1) (Cc := Cc) F H S2 I2.D (I2.cD.mono del_le) ⟨oC, eC, hC⟩ (List.mem_of_getElem? hv) hroom (fun l μ' s' ol vs S3 n3 x3 lo3 i3 => ?_) (by rfl) rfl (by rfl) rfl rfl (fun _ => by rfl) (fun _ => by rfl) (fun _ => by rfl) (fun _ => by rfl) (fun C' => he C C' Cc)
    have x4 : Ext ν (put μ' l ol) := x3.trans (Ext.new n3)
    have nl : ν l = none := by
      cases q : ν l with
      | none => rfl
      | some o => rw [x3 _ _ q] at n3; cases n3
    refine ⟨_, S3, x4, P2.1.trans (hf _ _ x4), ?_⟩
    rw [take_snoc hv]
    exact (P2.2.mono (hf _ _ x4)).snoc (hn l ol _ nl x4 put_self) lo3 i3
  · intro l ys ν s2 oD S2 n2 hl2 P2
    refine h l _ s2 S2 (P2.1.trans (Ext.new n2)) ⟨oD, ys, put_self, hl2, ?_⟩
    have := P2.2.mono (Ext.new (o := oD) n2)
    rwa [show (G.ks.map fun v => (v, Value.ref (la v))).length = G.ks.length by simp, List.take_length] at this
end
end Mine
end
section -- Comps4
open PySem PySem.W PySem.Calls PyProof.Rows PyProof.V PySem.Spec
set_option maxRecDepth 100000
set_option linter.unusedVariables false
namespace Mine
theorem strict_eq : ∀ {l l' : List Int}, l.Pairwise (· < ·) → l'.Pairwise (· < ·) → (∀ x, x ∈ l ↔ x ∈ l') → l = l'
  | [], [], _, _, _ => rfl
  | [], b :: l', _, _, h => absurd ((h b).mpr (.head _)) (by simp)
  | a :: l, [], _, _, h => absurd ((h a).mp (.head _)) (by simp)
  | a :: l, b :: l', p, q, h => by
    rw [List.pairwise_cons] at p q
    have e : a = b := by
      rcases List.mem_cons.mp ((h a).mp (.head _)) with e | e
      · exact e
      · rcases List.mem_cons.mp ((h b).mpr (.head _)) with e' | e'
        · exact e'.symm
        · have := q.1 a e; have := p.1 b e'; omega
    subst e
    congr 1
    refine strict_eq p.2 q.2 fun x => ?_
    constructor
    · intro hx
      rcases List.mem_cons.mp ((h x).mp (.tail _ hx)) with e | e
      · subst e; exact absurd (p.1 x hx) (by omega)
      · exact e
    · intro hx
      rcases List.mem_cons.mp ((h x).mpr (.tail _ hx)) with e | e
      · subst e; exact absurd (q.1 x hx) (by omega)
      · exact e
theorem srtTo_mem (p : Int → Bool) (i : Nat) (x : Int) : x ∈ srtTo p i ↔ (0 ≤ x ∧ x < i) ∧ p x = true := by
  unfold srtTo
  rw [List.mem_filter, List.mem_map]
  constructor
  · rintro ⟨⟨n, hn, rfl⟩, h⟩
    have := List.mem_range.mp hn
    exact ⟨⟨Int.natCast_nonneg _, by show (n : Int) < i; omega⟩, h⟩
  · rintro ⟨⟨h0, h1⟩, h⟩
    exact ⟨⟨x.toNat, List.mem_range.mpr (by omega), by show ((x.toNat : Nat) : Int) = x; omega⟩, h⟩
theorem srtTo_lt (p : Int → Bool) (i : Nat) : (srtTo p i).Pairwise (· < ·) := by
  unfold srtTo
  refine List.Pairwise.filter _ ?_
  rw [List.pairwise_map]
  exact (List.pairwise_lt_range (n := i)).imp fun h => by show ((_ : Nat) : Int) < ((_ : Nat) : Int); omega
theorem sorted_eq {o row ns' : List Int} {f g : Int → Int} (r : R3 o f g row) (h5 : ∀ c ∈ o, 0 ≤ c ∧ c < 5) (hp : ns'.Perm row) (hs : ns'.Pairwise (· ≤ ·)) : ns' = srtTo (fun b => decide (b ∈ o)) 5 := by
  refine strict_eq ?_ (srtTo_lt _ _) fun x => ?_
  · have hn : ns'.Nodup := hp.nodup_iff.mpr r.nodup
    exact (hs.and hn).imp fun h => by have := h.1; have := h.2; omega
  · rw [srtTo_mem, hp.mem_iff, r.mem]
    constructor
    · intro h; exact ⟨by have := h5 x h; exact this, by simpa using h⟩
    · rintro ⟨_, h⟩; simpa using h
section
variable {w : World} {K : Frag} {p : Program} {loose : List Str} {mean : ExcName → Option Value} {mg mb : Str → Option Value}
variable {A A' : Around} {env env' : Env} {h₀ : Heap} {L : Addr} {m : Str → Option Value} {μ : Mu} {s0 : Anc} {s : Shared} {E : Value → Shared → Prop} {ad : Adr} {G : PE}
  {a : Addr} {ccd : Value} {ns : List Int} {st d : Addr} {rows : Int → List Int} {la : Int → Addr} {va vr : Option Value}

theorem outerR {p1 p2 p3 p4 p5 p6 p7 pos : Pos} {Q : Value → Shared → Prop} (F : FLaw K) (H : Here K p loose mean mg mb A (lawEnv L a ccd) h₀ L) (S : At s0 h₀ L s m μ) (I : LI w ns st L μ ad G rows d la va vr)
    (h : ∀ l μ' s', At s0 h₀ L s' m μ' → Ext μ μ' → LLs μ' l (G.ks.map fun v => srtTo (fun b => decide (b ∈ G.ord v)) 5) → Q (.ref l) s') :
    wpAny (model P0 w) A (eval (.ListComp (.Call (.Name "sorted" p1) [.Subscript (.Name "turns" p2) (.Name "a" p3) p4] [] p5) [⟨.Name "a" p6, .Name "turns" p7, [], 0⟩] scR pos) (lawEnv L a ccd)) Q E s := by
  obtain ⟨odt, edt, hdt⟩ := I.E.1
  obtain ⟨oT, eT, hT⟩ := I.cT.mono del_le
  have h60 := ksLen I.D
  refine compX (s0 := s0) (h₀ := h₀) (L := L) (m := m) (cl := [(("turns" : Str), L + 1 + 1)]) (by rfl) (by decide) rfl (by decide) (by rfl) (nameCell S eT hT ?_) (by intro _; rfl)
  obtain ⟨ep, ha⟩ := KdkAt.of hdt
  refine dIter S edt ha fun J oJ s1 hJ0 S1 hK => ?_
  refine ⟨J, _, _, _, _, fun i ys ν => Ext μ ν ∧ LLp ν ys ((G.ks.take i).map fun v => srtTo (fun b => decide (b ∈ G.ord v)) 5), rfl,
    ⟨itKeys (knd := ik w) (kvs := G.ks.map fun v => (v, Value.ref (la v))) (ep := ep) H.hand J d, ⟨μ, oJ, hJ0, S1, hK, ⟨odt, edt, ha⟩, Ext.rfl' μ, by simpa using LLp.nil⟩, by simpa using Nat.le_trans h60 (by decide), fun i ys ν ν' x q => ⟨q.1.trans x, q.2.mono x⟩⟩, ?_, ?_⟩
  · intro C Dd i y ys ν s2 oC E' hi S2 hy eC hC P2 _ hn hx hf
    obtain ⟨k, x, hkx, hky⟩ := hy
    rw [List.getElem?_map] at hkx
    obtain ⟨v, hv, hvk⟩ := Option.map_eq_some_iff.mp hkx
    cases hvk
    obtain ⟨tv, rfl⟩ := isInt_of hky
    obtain ⟨m₂, hN, hb2⟩ := hC
    have xx : Ext μ ν := P2.1.trans (hx ν)
    have I2 := I.mono xx
    have hvm : k ∈ G.ks := List.mem_of_getElem? hv
    obtain ⟨oT, eT, hT⟩ := I2.cT.mono del_le
    obtain ⟨odt, edt, hdt⟩ := I2.E.1
    obtain ⟨ol, vs, el, lo, hi'⟩ := I2.E.2 k hvm
    rw [List.forIn_nil]
    refine wpAny_pure ⟨ν, S2, Ext.rfl' ν, ?_⟩
    rw [if_pos rfl]
    refine Call_ (nameBE S2 H F.nSorted (v := .builtin "sorted") (by decide +kernel) (by decide) (callWith_builtin (by rfl) (evalArgs_plain (wpAny_items_cons (Subscript_ (nameCell S2 eT hT (nameLoc S2 eC hN hb2 ?_)))))))
    refine dItem S2 edt hdt (intKind_is ..) (by rw [valueAt_map, if_pos hvm]) fun s3 S3 => wpAny_items_nil ?_
    have h5 : vs.length ≤ 5 := by
      rw [hi'.length]
      exact le5 (I2.rws k).nodup fun c hc => I2.D.ok.ord k c (((I2.rws k).mem c).mp hc)
    refine sortedL S3 el lo hi' (by omega) fun l oD s4 vs' ns' n4 S4 lo4 i4 hp4 hs4 => ?_
    have x4 : Ext ν (put ν l oD) := Ext.new n4
    refine ⟨_, S4, x4, P2.1.trans (hf _ _ x4), ?_⟩
    rw [take_snoc hv]
    have := sorted_eq (I2.rws k) (I2.D.ok.ord k) hp4 hs4
    exact (P2.2.mono (hf _ _ x4)).snoc (hn l oD _ n4 x4 put_self) lo4 (this ▸ i4)
  · intro l ys ν s2 oD S2 n2 hl2 P2
    refine h l _ s2 S2 (P2.1.trans (Ext.new n2)) ⟨oD, ys, put_self, hl2, ?_⟩
    have := P2.2.mono (Ext.new (o := oD) n2)
    rwa [show (G.ks.map fun v => (v, Value.ref (la v))).length = G.ks.length by simp, List.take_length] at this
end
end Mine
end
section -- LawC
open PySem PySem.W PySem.Calls PyProof.Rows PyProof.V PySem.Spec
set_option maxRecDepth 100000
set_option linter.unusedVariables false
namespace Mine
def fbody : Stmt → List Stmt
  | .For _ _ b _ _ => b
  | _ => []
def ibody : Stmt → List Stmt
  | .If _ b _ _ => b
  | _ => []
def lawS (i : Nat) : Stmt := nth (sBody (topS 21)) i
def turnS (i : Nat) : Stmt := nth (fbody (lawS 3)) i
def putS (i : Nat) : Stmt := nth (ibody (turnS 3)) i
section
variable {w : World} {K : Frag} {p : Program} {loose : List Str} {mean : ExcName → Option Value} {mg mb : Str → Option Value}
variable {A A' : Around} {env env' : Env} {h₀ : Heap} {L : Addr} {m : Str → Option Value} {μ : Mu} {s0 : Anc} {s : Shared} {E : Value → Shared → Prop} {ad : Adr} {G : PE}
  {a : Addr} {ccd : Value} {ns : List Int} {st d : Addr} {rows : Int → List Int} {la : Int → Addr} {va vr : Option Value}

theorem checkS {Q : Flow → Shared → Prop} (F : FLaw K) (H : Here K p loose mean mg mb A (lawEnv L a ccd) h₀ L) (S : At s0 h₀ L s m μ) (hJ : s0.J = AllBare) (I : LI w ns st L μ ad G rows d la va vr) (hroom : A.depth + 3 < recursionLimit) (hu : A.units + 70 < cLine)
    (h : ∀ s' μ', At s0 h₀ L s' m μ' → Ext μ μ' → Q .next s') : wpAny (model P0 w) A (exec (turnS 4) (lawEnv L a ccd)) Q E s := by
  refine wpAny_If (wpAny_isTrue_BoolOp (wpAny_allTrue_Or_cons (wpAny_isTrue_Compare1 (itemsNe F H S hJ I hroom (by omega) fun s1 μ1 S1 x1 => wpAny_truthy_bool ?_) (by rfl))))
  rw [if_neg (by simp)]
  refine wpAny_allTrue_Or_cons (wpAny_isTrue_Compare1 (outerL F H S1 (I.mono x1) (by omega) fun l μ2 s2 S2 x2 l2 => ?_) (by rfl))
  refine outerR F H S2 ((I.mono x1).mono x2) fun l' μ3 s3 S3 x3 l3 => ?_
  refine neLists S3 (l2.mono x3) l3 (by omega) (wpAny_truthy_bool ?_)
  rw [if_neg (by simp)]
  refine wpAny_allTrue_Or_nil ?_
  rw [if_neg (by simp)]
  exact wpAny_execs_nil (h s3 μ3 S3 (x1.trans (x2.trans x3)))
end
end Mine
end
section -- Pure3
set_option linter.unusedVariables false
namespace Mine
def NEq (G H : PE) : Prop := G.kn = H.kn ∧ G.ks = H.ks ∧ G.kp = H.kp
theorem NEq.same {G H : PE} (x : NEq G H) (h : H.Same) : G.Same := ⟨x.1.trans (h.1.trans x.2.1.symm), x.2.2.trans (h.2.trans x.2.1.symm)⟩
theorem NEq.trans {G H J : PE} (x : NEq G H) (y : NEq H J) : NEq G J := ⟨x.1.trans y.1, x.2.1.trans y.2.1, x.2.2.trans y.2.2⟩
theorem nodes_edge (G : PE) (u v c d : Int) : NEq (G.edge u v c d) G := ⟨rfl, rfl, rfl⟩
theorem nodes_mv (G : PE) (u l : Int) : NEq (G.mv u l) G := ⟨rfl, rfl, rfl⟩
theorem nodes_sc (G : PE) (u v c : Int) : NEq (G.setCw u v c) G := ⟨rfl, rfl, rfl⟩
theorem nodes_sd (G : PE) (u v c : Int) : NEq (G.setCcw u v c) G := ⟨rfl, rfl, rfl⟩
theorem nodes_add (G : PE) (a b c d : Int) : NEq (G.addEdge a b c d) ((G.addV a).addV b) := nodes_edge ((G.addV a).addV b) a b c d
theorem nodes_first {G : PE} {a b : Int} : NEq (G.halfFirst a b) ((G.addV a).addV b) := nodes_add G a b b b
theorem nodes_cw {G : PE} {a b c : Int} : NEq (G.halfCw a b c) ((G.addV a).addV b) := by
  have k := ((nodes_sd ((G.addEdge a b c (G.ccw a c)).setCw a (G.ccw a c) b) a c b).trans (nodes_sc (G.addEdge a b c (G.ccw a c)) a (G.ccw a c) b)).trans (nodes_add G a b c (G.ccw a c))
  unfold PE.halfCw
  simp only
  split
  · exact k
  · exact (nodes_mv _ _ _).trans k
theorem nodes_ccw {G : PE} {a b c : Int} : NEq (G.halfCcw a b c) ((G.addV a).addV b) := by
  unfold PE.halfCcw
  exact (nodes_mv _ _ _).trans ((nodes_sc _ _ _ _).trans ((nodes_sd _ _ _ _).trans (nodes_add _ _ _ _ _)))
theorem put_nodes {G G' : PE} {a b way : Int} {r : Option Int} (h : putRes G a b way r = some G') : NEq G' ((G.addV a).addV b) := by
  unfold putRes halfRes firstRes at h
  have key : ∀ {x : PE}, some x = some G' → NEq x ((G.addV a).addV b) → NEq G' ((G.addV a).addV b) := fun e k => by cases e; exact k
  split at h
  · split at h
    · cases r <;> simp at h
      exact key (congrArg some h) nodes_first
    · cases r <;> simp at h
      exact key (congrArg some h.2) nodes_cw
  · split at h
    · split at h
      · cases r <;> simp at h
        exact key (congrArg some h) nodes_first
      · cases r <;> simp at h
        exact key (congrArg some h.2) nodes_ccw
    · split at h
      · exact key h nodes_first
      · exact key h nodes_cw
def addK (ks : List Int) (v : Int) : List Int := if v ∈ ks then ks else ks ++ [v]
theorem addV_ks (G : PE) (v : Int) : (G.addV v).ks = addK G.ks v := by
  unfold PE.addV addK; split <;> rfl
theorem NEq.ks {G G' : PE} {a b : Int} (h : NEq G' ((G.addV a).addV b)) : G'.ks = addK (addK G.ks a) b := by rw [h.2.1, addV_ks, addV_ks]
end Mine
end
section -- LawD
open PySem PySem.W PySem.Calls PyProof.Rows PyProof.V PySem.Spec
set_option maxRecDepth 100000
set_option linter.unusedVariables false
namespace Mine
section
variable {w : World} {K : Frag} {p : Program} {loose : List Str} {mean : ExcName → Option Value} {mg mb : Str → Option Value}
variable {A A' : Around} {env env' : Env} {h₀ : Heap} {L : Addr} {m : Str → Option Value} {μ : Mu} {s0 : Anc} {s : Shared} {E : Value → Shared → Prop} {ad : Adr} {G : PE}
  {a : Addr} {ccd : Value} {ns : List Int} {st d : Addr} {rows : Int → List Int} {la : Int → Addr} {va vr : Option Value}

def Itr (o : Obj) : Prop := o.cls = .type "range_iterator" ∧ ∃ fs, o.data = .fields fs
def Frm (μ μ' : Mu) : Prop := ∀ b o, Itr o → μ b = some o → μ' b = some o
theorem Frm.trans {μ μ₁ μ₂ : Mu} (x : Frm μ μ₁) (y : Frm μ₁ μ₂) : Frm μ μ₂ := fun b o h e => y b o h (x b o h e)
theorem Frm.of {μ μ' : Mu} (x : Ext μ μ') : Frm μ μ' := fun b o _ e => x b o e
theorem Frm.putC {μ : Mu} {c : Addr} {v : Option Value} {x : Obj} (h : CellIs μ c v) : Frm μ (put μ c x) := fun b o hi e => (put_ne fun q => by
  obtain ⟨oc, ec, hc⟩ := h
  obtain ⟨_, fs, hf⟩ := hi
  rw [q, ec] at e; cases e
  rw [show o.data = .cell v from hc] at hf; cases hf).trans e
theorem Frm.ne_st {μ : Mu} (h : StM μ st ns) {b : Addr} {o : Obj} (hi : Itr o) (e : μ b = some o) : b ≠ st := fun q => by
  obtain ⟨os, es, hc⟩ := h.some
  rw [q, es] at e; cases e
  rw [hi.1] at hc; simp at hc
theorem Frm.next {μ : Mu} {x : Obj} (h : StM μ st ns) : Frm μ (put μ st x) := fun b o hi e => (put_ne (Frm.ne_st h hi e)).trans e
theorem Frm.goes {μ μ' : Mu} (h : StM μ st ns) (x : Ext (del μ st) (del μ' st)) : Frm μ μ' := fun b o hi e => by
  have hne := Frm.ne_st h hi e
  have := x b o ((del_ne hne).trans e)
  rwa [del_ne hne] at this
theorem Frm.step {μ μ' : Mu} {ad' : Adr} {G' : PE} (D : Dr w μ ad G) (T : Step μ ad G μ' ad' G') : Frm μ μ' := fun b o hi e => T.keep _ _ e (D.off_cls e (by rw [hi.1]; simp) (by rw [hi.1]; simp))
theorem lawNext {p1 p2 pos : Pos} {e : PySem.Expr} {many : Int} {Q : Value → Shared → Prop} (F : FLaw K) (H : Here K p loose mean mg mb A (lawEnv L a ccd) h₀ L) (S : At s0 h₀ L s m μ) (Z : StM μ st ns) (hns : ns.length ≤ 60) (ms : m "state" = some (.ref st)) (hm : 0 < many) (hroom : A.depth < recursionLimit)
    (hE : ∀ {s1} {Q' : Value → Shared → Prop}, At s0 h₀ L s1 m μ → (∀ t s2, At s0 h₀ L s2 m μ → Q' (.int many t) s2) → wpAny (model P0 w) A (eval e (lawEnv L a ccd)) Q' E s1)
    (h : ∀ s' v t o', 0 ≤ v → v < many → At s0 h₀ L s' m (put μ st o') → StM (put μ st o') st ns → Q (.int v t) s')
    (h1 : starEach [.Name "state" p2, e] (lawEnv L a ccd) = (false, eval (.Name "state" p2) (lawEnv L a ccd)) :: starEach [e] (lawEnv L a ccd) := by rfl) (h2 : (backTo pos (starEach [e] (lawEnv L a ccd))).any (·.1) = false := by rfl)
    (h3 : starEach [e] (lawEnv L a ccd) = (false, eval e (lawEnv L a ccd)) :: starEach [] (lawEnv L a ccd) := by rfl) :
    wpAny (model P0 w) A (eval (.Call (.Name "_law_next" p1) [.Name "state" p2, e] [] pos) (lawEnv L a ccd)) Q E s := by
  refine callF S H F.nNext F.kNext (wpAny_items_cons (nameX_L S.fr ms (wpAny_items_cons (hE S fun t s2 S2 => wpAny_items_nil ⟨H.X.keeps S2.fr.keep, wpAny_call ?_⟩) h3)) h1) (he := h1) (hp := h2)
  exact next_spec F.N H S2 Z hns hm hroom fun s' v t o' a1 a2 a3 a4 => h s' v t o' a1 a2 a3 a4
theorem nat13 (L : Nat) : L + 1 ≠ L + 1 + 1 + 1 := by omega
theorem ne13 (L : Addr) : L + 1 ≠ L + 1 + 1 + 1 := nat13 L
theorem nat23 (L : Nat) : L + 1 + 1 ≠ L + 1 + 1 + 1 := by omega
theorem ne23 (L : Addr) : L + 1 + 1 ≠ L + 1 + 1 + 1 := nat23 L
theorem nat43 (L : Nat) : L + 1 + 1 + 1 + 1 ≠ L + 1 + 1 + 1 := by omega
theorem ne43 (L : Addr) : L + 1 + 1 + 1 + 1 ≠ L + 1 + 1 + 1 := nat43 L
theorem nat14 (L : Nat) : L + 1 ≠ L + 1 + 1 + 1 + 1 := by omega
theorem ne14 (L : Addr) : L + 1 ≠ L + 1 + 1 + 1 + 1 := nat14 L
theorem nat24 (L : Nat) : L + 1 + 1 ≠ L + 1 + 1 + 1 + 1 := by omega
theorem ne24 (L : Addr) : L + 1 + 1 ≠ L + 1 + 1 + 1 + 1 := nat24 L

theorem turn0 {Q : Flow → Shared → Prop} (F : FLaw K) (H : Here K p loose mean mg mb A (lawEnv L a ccd) h₀ L) (S : At s0 h₀ L s m μ) (I : LI w ns st L μ ad G rows d la va vr) (hns : ns.length ≤ 60) (ms : m "state" = some (.ref st)) (hroom : A.depth < recursionLimit)
    (h : ∀ s' μ' v t, 0 ≤ v → v < 5 → At s0 h₀ L s' m μ' → Frm μ μ' → LI w ns st L μ' ad G rows d la (some (.int v t)) vr → Q .next s') : wpAny (model P0 w) A (exec (turnS 0) (lawEnv L a ccd)) Q E s := by
  refine wpAny_Assign_Name (lawNext (many := 5) F H S I.stm hns ms (by omega) hroom (fun S1 k => cInt S1 fun t s2 S2 => k t s2 S2) fun s1 v t o' v0 v5 S1 Z1 => ?_)
  have I1 := I.next Z1
  obtain ⟨oc, ec, hc⟩ := I1.cA.mono del_le
  refine stCell S1 ec hc fun s2 o2 S2 h2 => ?_
  exact h s2 _ v t v0 v5 S2 ((Frm.next I.stm).trans (Frm.putC (I1.cA.mono del_le))) (I1.setA h2 (ne13 L) (ne23 L) (ne43 L))
end
end Mine
end
section -- LawE
open PySem PySem.W PySem.Calls PyProof.Rows PyProof.V PySem.Spec
set_option maxRecDepth 100000
set_option linter.unusedVariables false
namespace Mine
def IntL (μ : Mu) (l : Addr) (ns : List Int) : Prop := ∃ o vs, μ l = some o ∧ LO vs o ∧ IntsAre vs ns
theorem IntL.mono {μ μ' : Mu} {l : Addr} {ns : List Int} (x : IntL μ l ns) (h : Ext μ μ') : IntL μ' l ns := let ⟨o, vs, e, r⟩ := x; ⟨o, vs, h _ _ e, r⟩
theorem IntL.putC {μ : Mu} {l c : Addr} {ns : List Int} {v : Option Value} {x : Obj} (y : IntL μ l ns) (h : CellIs μ c v) : IntL (put μ c x) l ns := by
  obtain ⟨o, vs, e, a, b⟩ := y
  obtain ⟨oc, ec, hc⟩ := h
  refine ⟨o, vs, (put_ne fun q => ?_).trans e, a, b⟩
  rw [q, ec] at e; cases e; exact a.noCell hc
section
variable {w : World} {K : Frag} {p : Program} {loose : List Str} {mean : ExcName → Option Value} {mg mb : Str → Option Value}
variable {A A' : Around} {env env' : Env} {h₀ : Heap} {L : Addr} {m : Str → Option Value} {μ : Mu} {s0 : Anc} {s : Shared} {E : Value → Shared → Prop} {ad : Adr} {G : PE}
  {a : Addr} {ccd : Value} {ns : List Int} {st d : Addr} {rows : Int → List Int} {la : Int → Addr} {va vr : Option Value}

theorem LawI.out (I : LI w ns st L μ ad G rows d la va vr) {v : Int} (h : v ∉ G.ks) : rows v = [] := (I.rws.nil_iff v).mp (I.D.ok.out v h)
theorem turn1 {v : Int} {t : Tok} {Q : Flow → Shared → Prop} (F : FLaw K) (H : Here K p loose mean mg mb A (lawEnv L a ccd) h₀ L) (S : At s0 h₀ L s m μ) (I : LI w ns st L μ ad G rows d la (some (.int v t)) vr)
    (h : ∀ s' μ' r, At s0 h₀ L s' m μ' → Frm μ μ' → LI w ns st L μ' ad G rows d la (some (.int v t)) (some (.ref r)) → IntL (del μ' st) r (rows v) → Q .next s') : wpAny (model P0 w) A (exec (turnS 1) (lawEnv L a ccd)) Q E s := by
  obtain ⟨oT, eT, hT⟩ := I.cT.mono del_le
  obtain ⟨odt, edt, hdt⟩ := I.E.1
  obtain ⟨oA, eA, hA⟩ := I.cA.mono del_le
  refine wpAny_Assign_Name (MethodCall_ (nameCell S eT hT (dGetM S edt hdt (cwB (wpAny_items_cons (nameCell S eA hA (wpAny_items_cons (listLit (wpAny_items_nil ⟨le_line (show 0 ≤ 100 by decide), _, _, S, fun l o s1 nl S1 lo => wpAny_items_nil ?_⟩)))))))))
  have x1 : Ext μ (put μ l o) := Ext.new nl
  have I1 := I.mono x1
  refine dGet2 S1 (x1 _ _ edt) hdt (intKind_is ..) fun s2 S2 => ?_
  obtain ⟨oc, ec, hc⟩ := I1.cR.mono del_le
  rw [valueAt_map]
  refine stCell S2 ec hc fun s3 o3 S3 h3 => ?_
  have nst : l ≠ st := fun q => by
    obtain ⟨os, es, _⟩ := I.stm.some
    rw [q, es] at nl; cases nl
  have hne := I1.cR.ne_st
  have fr : Frm μ (put (put μ l o) (L + 1 + 1 + 1 + 1) o3) := (Frm.of x1).trans (Frm.putC (I1.cR.mono del_le))
  by_cases q : v ∈ G.ks
  · refine h s3 _ (la v) S3 fr ?_ ?_
    · have := I1.setR h3 (ne14 L) (ne24 L) (fun z => ne43 L z.symm)
      rw [if_pos q] at this
      exact this
    · rw [del_put_ne hne]
      obtain ⟨o4, vs4, e4, l4, i4⟩ := I1.emb.2 v q
      exact IntL.putC ⟨o4, vs4, e4, l4, i4⟩ I1.cR
  · refine h s3 _ l S3 fr ?_ ?_
    · have := I1.setR h3 (ne14 L) (ne24 L) (fun z => ne43 L z.symm)
      rw [if_neg q] at this
      exact this
    · rw [del_put_ne hne]
      refine IntL.putC ⟨o, [], ?_, lo, ?_⟩ I1.cR
      · rw [del_ne nst, put_self]
      · rw [I.out q]; exact .nil
end
end Mine
end
section -- LawF
open PySem PySem.W PySem.Calls PyProof.Rows PyProof.V PySem.Spec
set_option maxRecDepth 100000
set_option linter.unusedVariables false
namespace Mine
section
variable {w : World} {K : Frag} {p : Program} {loose : List Str} {mean : ExcName → Option Value} {mg mb : Str → Option Value}
variable {A A' : Around} {env env' : Env} {h₀ : Heap} {L : Addr} {m : Str → Option Value} {μ : Mu} {s0 : Anc} {s : Shared} {E : Value → Shared → Prop} {ad : Adr} {G : PE}
  {a : Addr} {ccd : Value} {ns : List Int} {st d r : Addr} {rows : Int → List Int} {la : Int → Addr} {va vr : Option Value}
def othersOf (v : Int) (row : List Int) : List Int := srtTo (fun b => decide (b ≠ v) && decide (b ∉ row)) 5
theorem IntL.ne_st {l : Addr} {xs : List Int} (x : IntL (del μ st) l xs) : l ≠ st := fun q => by
  obtain ⟨o, vs, e, _⟩ := x
  subst q; unfold Mine.del at e; rw [if_pos rfl] at e; cases e

theorem turn2 {v : Int} {t : Tok} {Q : Flow → Shared → Prop} (F : FLaw K) (H : Here K p loose mean mg mb A (lawEnv L a ccd) h₀ L) (S : At s0 h₀ L s m μ) (I : LI w ns st L μ ad G rows d la (some (.int v t)) (some (.ref r))) (R : IntL (del μ st) r (rows v))
    (h : ∀ s' μ' l, At s0 h₀ L s' (fun z => if z = ("others" : Str) then some (.ref l) else m z) μ' → Ext μ μ' → IntL (del μ' st) l (othersOf v (rows v)) → Q .next s') : wpAny (model P0 w) A (exec (turnS 2) (lawEnv L a ccd)) Q E s := by
  refine compA (s0 := s0) (h₀ := h₀) (L := L) (m := m) (cl := [(("row" : Str), L + 1 + 1 + 1 + 1), (("a" : Str), L + 1 + 1 + 1)]) rfl (by rfl) (by rfl) (by decide) rfl (by decide) (by rfl) (by rfl) (by rfl) (rangeN S H F.nRange (fun J oJ μ1 s1 x1 hJ S1 hR => ?_)) (by intro _; rfl)
  refine ⟨J, 5, RgI 0 5, fun _ => True, fun i y => ∃ t, y = .int (0 + (i : Int)) t, fun i ys ν => Ext μ ν ∧ IntsAre ys (srtTo (fun b => decide (b ≠ v) && decide (b ∉ rows v)) i), rfl, ⟨itRange H.hand J 0 5, ⟨μ1, oJ, hJ, S1, hR, trivial, x1, .nil⟩, by omega, fun i ys ν ν' x q => ⟨q.1.trans x, q.2⟩⟩, ?_, ?_⟩
  · intro C Dd i y ys ν s2 oC E' hi S2 hy eC hC P2 _ _ hx _
    obtain ⟨tb, rfl⟩ := hy
    obtain ⟨m₂, hN, hb2⟩ := hC
    have xx : Ext μ ν := P2.1.trans (hx ν)
    obtain ⟨oA, eA, hA⟩ := (I.mono xx).cA.mono del_le
    obtain ⟨oR, eR, hR'⟩ := (I.mono xx).cR.mono del_le
    obtain ⟨ol, vs, el, lo, hi'⟩ := (R.mono del_le).mono xx
    refine ifs1 (wpAny_isTrue_BoolOp (wpAny_allTrue_And_cons (wpAny_isTrue_Compare1 (nameLoc S2 eC hN hb2 (nameCell S2 eA hA (ne_int (wpAny_truthy_bool ?_)))) (by rfl))))
    have e0 : (0 + (i : Int)) = (i : Int) := Int.zero_add _
    by_cases q : (i : Int) = v
    · have f1 : (decide ((i : Int) ≠ v) && decide ((i : Int) ∉ rows v)) = false := by simp [q]
      rw [if_neg (by simp [e0, q])]
      refine ⟨ν, S2, Ext.rfl' ν, ?_⟩
      rw [if_neg (by simp)]
      refine ⟨P2.1, ?_⟩
      rw [srtTo_succ, f1, if_neg (by simp), List.append_nil]
      exact P2.2
    · rw [if_pos (by simp [e0, q])]
      refine wpAny_allTrue_And_cons (wpAny_isTrue_Compare1 (nameLoc S2 eC hN hb2 (nameCell S2 eR hR' (notInL S2 el lo hi' (wpAny_truthy_bool ?_)))) (by rfl))
      rw [e0]
      by_cases z : (i : Int) ∈ rows v
      · have f1 : (decide ((i : Int) ≠ v) && decide ((i : Int) ∉ rows v)) = false := by simp [z]
        rw [if_neg (by simp [z])]
        refine ⟨ν, S2, Ext.rfl' ν, ?_⟩
        rw [if_neg (by simp)]
        refine ⟨P2.1, ?_⟩
        rw [srtTo_succ, f1, if_neg (by simp), List.append_nil]
        exact P2.2
      · have f1 : (decide ((i : Int) ≠ v) && decide ((i : Int) ∉ rows v)) = true := by simp [z, q]
        rw [if_pos (by simp [z])]
        refine wpAny_allTrue_And_nil ⟨ν, S2, Ext.rfl' ν, ?_⟩
        rw [if_pos rfl]
        refine nameLoc S2 eC hN hb2 ⟨ν, S2, Ext.rfl' ν, P2.1, ?_⟩
        rw [srtTo_succ, f1, if_pos rfl, e0]
        exact P2.2.append (.cons _ _ .nil)
  · intro l ys ν s2 oD S2 n2 hl2 P2
    have nst : l ≠ st := fun q => by
      obtain ⟨os, es, _⟩ := I.stm.some
      rw [q, P2.1 _ _ es] at n2; cases n2
    refine h s2 _ l S2 (P2.1.trans (Ext.new n2)) ⟨oD, ys, ?_, hl2, P2.2⟩
    rw [del_ne nst, put_self]
end
end Mine
end
section -- LawG
open PySem PySem.W PySem.Calls PyProof.Rows PyProof.V PySem.Spec
set_option maxRecDepth 100000
set_option linter.unusedVariables false
namespace Mine
theorem ints_get {vs : List Value} {ns : List Int} (h : IntsAre vs ns) : ∀ (j : Nat) (h' : j < ns.length), ∃ t, vs[j]? = some (.int ns[j] t) := by
  induction h with
  | nil => intro j h; simp at h
  | cons n t r ih =>
    intro j h
    cases j with
    | zero => exact ⟨t, rfl⟩
    | succ j => obtain ⟨t', e⟩ := ih j (by simpa using h); exact ⟨t', by simpa using e⟩
def Same (st : Addr) (ns : List Int) (μ μ' : Mu) : Prop := StM μ' st ns ∧ del μ' st = del μ st
theorem Same.put {st : Addr} {ns : List Int} {μ μ₁ : Mu} {o : Obj} (x : Same st ns μ μ₁) (h : StM (put μ₁ st o) st ns) : Same st ns μ (put μ₁ st o) := ⟨h, del_put.trans x.2⟩
theorem Same.trans {st : Addr} {ns : List Int} {μ μ₁ μ₂ : Mu} (x : Same st ns μ μ₁) (y : Same st ns μ₁ μ₂) : Same st ns μ μ₂ := ⟨y.1, y.2.trans x.2⟩
section
variable {w : World} {K : Frag} {p : Program} {loose : List Str} {mean : ExcName → Option Value} {mg mb : Str → Option Value}
variable {A A' : Around} {env env' : Env} {h₀ : Heap} {L : Addr} {m : Str → Option Value} {μ μ' : Mu} {s0 : Anc} {s : Shared} {E : Value → Shared → Prop} {ad : Adr} {G : PE}
  {a : Addr} {ccd : Value} {ns : List Int} {st d r l : Addr} {rows : Int → List Int} {la : Int → Addr} {va vr : Option Value} {xs : List Int}
theorem LawI.same_ (I : LI w ns st L μ ad G rows d la va vr) (x : Same st ns μ μ') : LI w ns st L μ' ad G rows d la va vr := by
  refine ⟨x.1, ?_, I.same, I.rws, ?_, I.nd, ?_, ?_, ?_, ?_⟩ <;> rw [x.2]
  · exact I.dr
  · exact I.emb
  · exact I.cD
  · exact I.cT
  · exact I.cA
  · exact I.cR

theorem pickE {p1 p2 p3 p4 p5 p6 p7 pos : Pos} {Q : Value → Shared → Prop} (F : FLaw K) (H : Here K p loose mean mg mb A (lawEnv L a ccd) h₀ L) (S : At s0 h₀ L s m μ) (Z : StM μ st ns) (O : IntL (del μ st) l xs) (hns : ns.length ≤ 60) (ms : m "state" = some (.ref st)) (mo : m "others" = some (.ref l))
    (hne : xs ≠ []) (h5 : xs.length ≤ 5) (hroom : A.depth < recursionLimit)
    (h : ∀ s' μ' b t, b ∈ xs → At s0 h₀ L s' m μ' → Same st ns μ μ' → Q (.int b t) s') :
    wpAny (model P0 w) A (eval (.Subscript (.Name "others" p1) (.Call (.Name "_law_next" p2) [.Name "state" p3, .Call (.Name "len" p4) [.Name "others" p5] [] p6] [] p7) pos) (lawEnv L a ccd)) Q E s := by
  have hlen : 0 < xs.length := List.length_pos_iff.mpr hne
  refine Subscript_ (nameX_L S.fr mo (lawNext (many := (xs.length : Int)) F H S Z hns ms (by omega) hroom (fun {s1 Q'} S1 k => ?_) fun s1 v t o' v0 v1 S1 Z1 => ?_))
  · obtain ⟨ol, vs, el, lo, hi⟩ := O.mono del_le
    refine callB "len" S1 H F.nLen (by decide +kernel) (by decide) (wpAny_items_cons (nameX_L S1.fr mo (wpAny_items_nil (lenL S1 (lo.isList (S1.get el)) (by rw [List.size_toArray, hi.length]; omega) fun t s2 S2 => ?_))))
    rw [List.size_toArray, hi.length]
    exact k t s2 S2
  · have O1 : IntL (del (put μ st o') st) l xs := by rw [del_put]; exact O
    obtain ⟨ol, vs, el, lo, hi⟩ := O1.mono del_le
    have hv : v.toNat < xs.length := by omega
    obtain ⟨t', e⟩ := ints_get hi v.toNat hv
    refine subL (.int xs[v.toNat] t') (lo.isList (S1.get el)) v0 (by omega) (by simpa using e) ?_
    exact h s1 _ _ t' (List.getElem_mem hv) S1 ⟨Z1, del_put⟩

theorem put0 {Q : Flow → Shared → Prop} (F : FLaw K) (H : Here K p loose mean mg mb A (lawEnv L a ccd) h₀ L) (S : At s0 h₀ L s m μ) (Z : StM μ st ns) (O : IntL (del μ st) l xs) (hns : ns.length ≤ 60) (ms : m "state" = some (.ref st)) (mo : m "others" = some (.ref l))
    (hne : xs ≠ []) (h5 : xs.length ≤ 5) (hroom : A.depth < recursionLimit)
    (h : ∀ s' μ' b t, b ∈ xs → At s0 h₀ L s' (fun z => if z = ("b" : Str) then some (.int b t) else m z) μ' → Same st ns μ μ' → Q .next s') : wpAny (model P0 w) A (exec (putS 0) (lawEnv L a ccd)) Q E s :=
  wpAny_Assign_Name (pickE F H S Z O hns ms mo hne h5 hroom fun s1 μ1 b t hb S1 x1 => stL S1 fun s2 S2 => h s2 μ1 b t hb S2 x1)

theorem put1 {Q : Flow → Shared → Prop} (F : FLaw K) (H : Here K p loose mean mg mb A (lawEnv L a ccd) h₀ L) (S : At s0 h₀ L s m μ) (Z : StM μ st ns) (hns : ns.length ≤ 60) (ms : m "state" = some (.ref st)) (hroom : A.depth < recursionLimit)
    (h : ∀ s' μ' (way k asked : Int) t1 t2 t3, 0 ≤ way ∧ way < 5 → 0 ≤ k ∧ k < 4 → 0 ≤ asked ∧ asked < 8 → At s0 h₀ L s' (fun z => if z = ("way" : Str) then some (.int way t1) else if z = ("k" : Str) then some (.int k t2) else if z = ("asked" : Str) then some (.int asked t3) else m z) μ' → Same st ns μ μ' → Q .next s') : wpAny (model P0 w) A (exec (putS 1) (lawEnv L a ccd)) Q E s := by
  refine tupAsg (s0 := s0) (h₀ := h₀) (L := L) (names := ["way", "k", "asked"]) H.hand (wpAny_items_cons (lawNext (many := 5) F H S Z hns ms (by omega) hroom (fun S1 k => cInt S1 fun t s2 S2 => k t s2 S2) fun s1 v1 t1 o1 a1 b1 S1 Z1 => ?_))
  refine wpAny_items_cons (lawNext (many := 4) F H S1 Z1 hns ms (by omega) hroom (fun S1 k => cInt S1 fun t s2 S2 => k t s2 S2) fun s2 v2 t2 o2 a2 b2 S2 Z2 => ?_)
  refine wpAny_items_cons (lawNext (many := 8) F H S2 Z2 hns ms (by omega) hroom (fun S1 k => cInt S1 fun t s2 S2 => k t s2 S2) fun s3 v3 t3 o3 a3 b3 S3 Z3 => ?_)
  refine wpAny_items_nil ⟨rfl, le_line (show 3 ≤ 100 by decide), m, _, S3, fun s4 S4 => ?_⟩
  refine wpAny_bind (wpAny_bindName (stL S4 fun s5 S5 => wpAny_bind (wpAny_bindName (stL S5 fun s6 S6 => wpAny_bind (wpAny_bindName (stL S6 fun s7 S7 => wpAny_pure ?_))))))
  refine h s7 _ v1 v2 v3 t1 t2 t3 ⟨a1, b1⟩ ⟨a2, b2⟩ ⟨a3, b3⟩ S7 ⟨Z3, ?_⟩
  rw [del_put, del_put, del_put]
end
end Mine
end
section -- LawH
open PySem PySem.W PySem.Calls PyProof.Rows PyProof.V PySem.Spec
set_option maxRecDepth 100000
set_option linter.unusedVariables false
namespace Mine
def Goes (st : Addr) (ns : List Int) (μ μ' : Mu) : Prop := StM μ' st ns ∧ Ext (del μ st) (del μ' st)
theorem Same.goes {st : Addr} {ns : List Int} {μ μ' : Mu} (x : Same st ns μ μ') : Goes st ns μ μ' := ⟨x.1, by rw [x.2]; exact Ext.rfl' _⟩
theorem Goes.trans {st : Addr} {ns : List Int} {μ μ₁ μ₂ : Mu} (x : Goes st ns μ μ₁) (y : Goes st ns μ₁ μ₂) : Goes st ns μ μ₂ := ⟨y.1, x.2.trans y.2⟩
theorem Goes.more {st : Addr} {ns : List Int} {μ μ₁ μ₂ : Mu} (x : Goes st ns μ μ₁) (y : Ext μ₁ μ₂) : Goes st ns μ μ₂ := ⟨x.1.mono y, x.2.trans (ext_del2 y)⟩
section
variable {w : World} {K : Frag} {p : Program} {loose : List Str} {mean : ExcName → Option Value} {mg mb : Str → Option Value}
variable {A A' A₀ : Around} {env env' : Env} {base h₀ : Heap} {L : Addr} {m : Str → Option Value} {μ μ' : Mu} {s0 : Anc} {s : Shared} {E : Value → Shared → Prop} {ad : Adr} {G : PE}
  {a : Addr} {ccd : Value} {ns : List Int} {st d r l : Addr} {rows : Int → List Int} {la : Int → Addr} {va vr : Option Value} {xs : List Int}
theorem LawI.goes (I : LI w ns st L μ ad G rows d la va vr) (x : Goes st ns μ μ') : LI w ns st L μ' ad G rows d la va vr :=
  ⟨x.1, I.dr.mono fun r l o e => x.2 _ _ e, I.same, I.rws, I.emb.mono x.2, I.nd, I.cD.mono x.2, I.cT.mono x.2, I.cA.mono x.2, I.cR.mono x.2⟩
theorem othersOf_mem {v : Int} {row : List Int} {b : Int} : b ∈ othersOf v row ↔ (0 ≤ b ∧ b < 5) ∧ b ≠ v ∧ b ∉ row := by
  unfold othersOf
  rw [srtTo_mem]
  simp
theorem othersOf_len (v : Int) (row : List Int) : (othersOf v row).length ≤ 5 :=
  le5 ((srtTo_lt _ _).imp fun h => by omega) fun k hk => (othersOf_mem.mp hk).1
theorem Rows.le5 (r : Rows G rows) (D : Dr w μ ad G) (v : Int) : (rows v).length ≤ 5 :=
  Mine.le5 (r v).nodup fun k hk => D.ok.ord v k (((r v).mem k).mp hk)

theorem put2 {v b asked : Int} {tv tb tq : Tok} {Q : Flow → Shared → Prop} (F : FLaw K) (H : Here K p loose mean mg mb A (lawEnv L a ccd) h₀ L) (B : Below A₀ base [] h₀) (hA : A.frames = some [lawEnv L a ccd]) (XB : K.In base) (TB : Top p loose mean mg mb base) (S : At s0 h₀ L s m μ) (hJ : s0.J = AllBare) (I : LI w ns st L μ ad G rows d la (some (.int v tv)) (some (.ref r))) (R : IntL (del μ st) r (rows v)) (O : IntL (del μ st) l (othersOf v (rows v))) (hns : ns.length ≤ 60)
    (ms : m "state" = some (.ref st)) (mo : m "others" = some (.ref l)) (mb' : m "b" = some (.int b tb)) (mq : m "asked" = some (.int asked tq)) (hv : 0 ≤ v ∧ v < 5) (hb : b ∈ othersOf v (rows v)) (hq : 0 ≤ asked)
    (hroom : A.depth + 5 < recursionLimit) (hu : A.units + 80 < cLine)
    (h : ∀ s' μ', At s0 h₀ L s' m μ' → Goes st ns μ μ' → Q .next s') : wpAny (model P0 w) A (exec (putS 2) (lawEnv L a ccd)) Q E s := by
  refine wpAny_If (wpAny_isTrue_BoolOp (wpAny_allTrue_And_cons (wpAny_isTrue_Compare1 (nameX_L S.fr mq (cInt S fun _ s1 S1 => lt_int (wpAny_truthy_bool ?_))) (by rfl))))
  by_cases h6' : ¬ asked < 6
  · rw [if_neg (by simpa using h6')]
    rw [if_neg (by simp)]
    exact wpAny_execs_nil (h s1 μ S1 (Same.goes ⟨I.stm, rfl⟩))
  have h6 : asked < 6 := Decidable.not_not.mp h6'
  rw [if_pos (by simpa using h6)]
  refine wpAny_allTrue_And_cons (wpAny_isTrue_BoolOp (wpAny_allTrue_Or_cons (wpAny_isTrue_Not (isTrue_plain ?_))))
  obtain ⟨oD, eD, hD⟩ := I.cD.mono del_le
  obtain ⟨oA, eA, hA'⟩ := I.cA.mono del_le
  obtain ⟨oR, eR, hR'⟩ := I.cR.mono del_le
  have hne : othersOf v (rows v) ≠ [] := fun q => by rw [q] at hb; cases hb
  refine callF S1 H F.nRef F.kRef (wpAny_items_cons (nameCell S1 eD hD (wpAny_items_cons (nameX_L S1.fr mq (wpAny_items_cons (nameCell S1 eA hA' (wpAny_items_cons (nameX_L S1.fr mb' (wpAny_items_cons (nameCell S1 eR hR' (wpAny_items_cons (pickE F H S1 I.stm O hns ms mo hne (othersOf_len _ _) (by omega) fun s2 μ2 c tc hc S2 x2 => wpAny_items_nil ⟨H.X.keeps S2.fr.keep, wpAny_call ?_⟩))))))))))))
  have I2 := I.same_ x2
  have R2 : IntL (del μ2 st) r (rows v) := by rw [x2.2]; exact R
  obtain ⟨ol, vs, el, lo, hi⟩ := R2.mono del_le
  obtain ⟨c5, cv, cr⟩ := othersOf_mem.mp hc
  obtain ⟨b5, bv, br⟩ := othersOf_mem.mp hb
  refine refused_spec F.refused F.nPut F.kPut F.F H B hA XB TB S2 I2.D I2.same ⟨hq, h6⟩ el lo hi (I2.rws.nil_iff v).symm (I2.rws.le5 I2.D v) (fun q => cr (((I2.rws v).mem c).mpr q)) hv b5 (fun q => br (((I2.rws v).mem b).mpr q)) (I2.rws.ring v) hroom hu fun s3 S3 => ?_
  refine wpAny_truthy_bool ?_
  rw [if_neg (by simp)]
  refine wpAny_allTrue_Or_cons (wpAny_isTrue_Compare1 (itemsNe F H S3 hJ I2 (by omega) (by omega) fun s4 μ4 S4 x4 => wpAny_truthy_bool ?_) (by rfl))
  rw [if_neg (by simp)]
  refine wpAny_allTrue_Or_nil ?_
  rw [if_neg (by simp)]
  rw [if_neg (by simp)]
  exact wpAny_execs_nil (h s4 μ4 S4 (x2.goes.more x4))
end
end Mine
end
section -- LawP
open PySem PySem.W PySem.Calls PyProof.Rows PyProof.V PySem.Spec
set_option maxRecDepth 100000
set_option linter.unusedVariables false
namespace Mine
def oelse : Stmt → List Stmt
  | .If _ _ b _ => b
  | _ => []
theorem fmod_nat (a b : Nat) : Int.fmod (a : Int) (b : Int) = ((a % b : Nat) : Int) := by
  rw [Int.fmod_eq_emod_of_nonneg _ (Int.natCast_nonneg _)]; rfl
section
variable {w : World} {K : Frag} {p : Program} {loose : List Str} {mean : ExcName → Option Value} {mg mb : Str → Option Value}
variable {A A' A₀ : Around} {env env' : Env} {base h₀ : Heap} {L : Addr} {m : Str → Option Value} {μ μ' : Mu} {s0 : Anc} {s : Shared} {E : Value → Shared → Prop} {ad ad' : Adr} {G G' : PE}
  {a : Addr} {ccd : Value} {ns : List Int} {st d r l : Addr} {rows : Int → List Int} {la : Int → Addr} {va vr : Option Value} {xs : List Int}
theorem IntL.step {o : Obj} (R : IntL (del μ st) r xs) (hs : μ st = some o) (D : Dr w μ ad G) (T : Step μ ad G μ' ad' G') : IntL (del μ' st) r xs := by
  obtain ⟨ol, vs, el, lo, hi⟩ := R
  exact ⟨ol, vs, of_keep hs T _ _ el (lo.off (del_le _ _ el) D), lo, hi⟩

theorem put3 {v b way k : Int} {tv tb tw tk : Tok} {Q : Flow → Shared → Prop} (F : FLaw K) (H : Here K p loose mean mg mb A (lawEnv L a ccd) h₀ L) (B : Below A₀ base [] h₀) (hA : A.frames = some [lawEnv L a ccd]) (S : At s0 h₀ L s m μ) (I : LI w ns st L μ ad G rows d la (some (.int v tv)) (some (.ref r))) (R : IntL (del μ st) r (rows v))
    (mb' : m "b" = some (.int b tb)) (mw : m "way" = some (.int way tw)) (mk : m "k" = some (.int k tk)) (hv : 0 ≤ v ∧ v < 5) (hb : b ∈ othersOf v (rows v)) (hw : 0 ≤ way ∧ way < 5) (hk : 0 ≤ k ∧ k < 4)
    (hroom : A.depth + 5 < recursionLimit) (hu : A.units + 80 < cLine)
    (h : ∀ s' μ' ad' G', At s0 h₀ L s' m μ' → Frm μ μ' → LawJ w ns st (L + 1) (L + 1 + 1) (L + 1 + 1 + 1) (L + 1 + 1 + 1 + 1) μ' ad' G G' rows d la (some (.int v tv)) (some (.ref r)) → Rows G' (set1 rows v (insAt (rows v) (placeOf (rows v) way.toNat k.toNat) b)) → NEq G' ((G.addV v).addV b) → IntL (del μ' st) r (rows v) → Q .next s') :
    wpAny (model P0 w) A (exec (putS 3) (lawEnv L a ccd)) Q E s := by
  obtain ⟨oD, eD, hD⟩ := I.cD.mono del_le
  obtain ⟨oA, eA, hA'⟩ := I.cA.mono del_le
  obtain ⟨oR, eR, hR'⟩ := I.cR.mono del_le
  obtain ⟨ost, est, _⟩ := I.stm.some
  obtain ⟨ol, vs, el, lo, hi⟩ := R.mono del_le
  obtain ⟨b5, bv, br⟩ := othersOf_mem.mp hb
  have hnew : b ∉ G.ord v := fun q => br (((I.rws v).mem b).mpr q)
  have h5 := I.rws.le5 I.D v
  have hlen : vs.length = (rows v).length := hi.length
  have wN : way = (way.toNat : Int) := by omega
  have kN : k = (k.toNat : Int) := by omega
  have fin : ∀ G', Rows G' (set1 rows v (insAt (rows v) (placeOf (rows v) way.toNat k.toNat) b)) → NEq G' ((G.addV v).addV b) → ∀ s' μ' ad', At s0 h₀ L s' m μ' → Dr w μ' ad' G' → Step μ ad G μ' ad' G' → Q .next s' :=
    fun G' hr hn s' μ' ad' S' D' T' => h s' μ' ad' G' S' (Frm.step I.D T') (I.go T' D') hr hn (R.step est I.D T')
  have key : ∀ s3, At s0 h₀ L s3 m μ → (rows v = [] → way = 4) → wpAny (model P0 w) A (execs (oelse (putS 3)) (lawEnv L a ccd)) Q E s3 := fun s3 S3 h4 => by
    obtain ⟨G', e1, e2, e3⟩ := put_rows (b := b) (way := way.toNat) (k := k.toNat) I.rws hnew (by omega) (fun q => by have := h4 q; omega)
    rw [← wN] at e1
    have go : ∀ (bv : Option (Int × Tok)) s4 (RR : Result → Shared → Prop), (∀ s', Q .next s' → RR (.ok (.ret .none)) s') → At s0 h₀ L s4 m μ → ((0 ≤ way ∧ way < 4 ∧ bv ≠ none) ∨ way = 4) → bv.map (·.1) = (if rows v = [] then none else (rows v)[k.toNat % (rows v).length]?) →
        codeAny (model P0 w) A (.call (.ref 922) ⟨[.ref (ad .x), .int way tw, .int v tv, .int b tb, ov bv], []⟩) RR s4 := fun bv s4 RR hRR S4 hw4 hbv => by
      refine put_spec hw4 F.F H B hA S4 I.D I.same hv b5 hnew (I.rws.ring v) (by omega) ⟨fun G2 hG s' μ' ad' S' D' T' => ?_, fun hn => ?_⟩
      · rw [hbv, e1] at hG; cases hG
        exact hRR s' <| fin _ e2 (put_nodes e1) s' μ' ad' S' D' T'
      · rw [hbv, e1] at hn; cases hn
    refine wpAny_execs_cons (wpAny_Expr_any (callF S3 H F.nPut F.kPut (wpAny_items_cons (nameCell S3 eD hD (wpAny_items_cons (nameX_L S3.fr mw (wpAny_items_cons (nameCell S3 eA hA' (wpAny_items_cons (nameX_L S3.fr mb' (wpAny_items_cons (wpAny_IfExp ?_))))))))))))
    refine wpAny_isTrue_Compare1 (nameCell S3 eR hR' (listLit (wpAny_items_nil ⟨le_line (show 0 ≤ 100 by decide), _, _, S3, fun l0 o0 s4 n0 S4 lo0 => ?_⟩))) (by rfl)
    have el4 : put μ l0 o0 r = some ol := (put_ne fun q => by rw [q, n0] at el; cases el).trans el
    refine eqInts S4 el4 put_self lo lo0 hi .nil (by omega) (wpAny_truthy_bool ?_)
    replace S4 := S4.drop n0
    by_cases e : rows v = []
    · rw [if_pos (by simp [e])]
      refine wpAny_Constant_none (wpAny_items_nil ⟨H.X.keeps S4.fr.keep, wpAny_call ?_⟩)
      exact go none s4 _ (fun s' q => wpAny_execs_nil q) S4 (.inr (h4 e)) (by rw [if_pos e]; rfl)
    · rw [if_neg (by simp [e])]
      have hl0 : 0 < (rows v).length := List.length_pos_iff.mpr e
      have hkl : k.toNat % (rows v).length < (rows v).length := Nat.mod_lt _ hl0
      refine Subscript_ (nameCell S4 eR hR' (wpAny_BinOp (nameX_L S4.fr mk (callB "len" S4 H F.nLen (by decide +kernel) (by decide) (wpAny_items_cons (nameCell S4 eR hR' (wpAny_items_nil (lenL S4 (lo.isList (S4.get el)) (by rw [List.size_toArray]; omega) fun t s5 S5 => ?_))))))))
      rw [List.size_toArray, hlen]
      refine modI S5 (by omega) fun t6 s6 S6 => ?_
      rw [kN, fmod_nat]
      obtain ⟨t', et⟩ := ints_get hi _ hkl
      refine subL (.int (rows v)[k.toNat % (rows v).length] t') (lo.isList (S6.get el)) (Int.natCast_nonneg _) (by omega) (by rw [Int.toNat_natCast]; simpa using et) ?_
      refine wpAny_items_nil ⟨H.X.keeps S6.fr.keep, wpAny_call ?_⟩
      refine go (some (_, t')) s6 _ (fun s' q => wpAny_execs_nil q) S6 ?_ (by rw [if_neg e, List.getElem?_eq_getElem hkl]; rfl)
      by_cases w4 : way = 4
      · exact .inr w4
      · exact .inl ⟨hw.1, by omega, by simp⟩
  refine wpAny_If (wpAny_isTrue_BoolOp (wpAny_allTrue_And_cons (wpAny_isTrue_Compare1 (nameCell S eR hR' (listLit (wpAny_items_nil ⟨le_line (show 0 ≤ 100 by decide), _, _, S, fun l0 o0 s2 n0 S2 lo0 => ?_⟩))) (by rfl))))
  have el2 : put μ l0 o0 r = some ol := (put_ne fun q => by rw [q, n0] at el; cases el).trans el
  refine eqInts S2 el2 put_self lo lo0 hi .nil (by omega) (wpAny_truthy_bool ?_)
  replace S2 := S2.drop n0
  by_cases e : rows v = []
  · rw [if_pos (by simp [e])]
    refine wpAny_allTrue_And_cons (wpAny_isTrue_Compare1 (nameX_L S2.fr mw (cInt S2 fun _ s3 S3 => lt_int (wpAny_truthy_bool ?_))) (by rfl))
    by_cases w4 : way < 4
    · rw [if_pos (by simpa using w4)]
      refine wpAny_allTrue_And_nil ?_
      rw [if_pos rfl]
      obtain ⟨e1, e2⟩ := first_rows (b := b) (way := way.toNat) (k := k.toNat) I.rws e
      refine wpAny_execs_cons (wpAny_Expr_any (methCA S3 H F.F.C I.D eD hD F.mHalf (by decide) (wpAny_items_cons (nameCell S3 eA hA' (wpAny_items_cons (nameX_L S3.fr mb' (wpAny_items_nil ⟨H.X.keeps S3.fr.keep, ?_⟩)))))))
      refine half_res (cv := none) (dv := none) F.F H B hA S3 I.D I.same hv b5 hnew (I.rws.ring v) (by omega) ⟨fun G2 hG s' μ' ad' S' D' T' => ?_, fun hn => ?_⟩
      · rw [show halfRes G v b ((none : Option (Int × Tok)).map (·.1)) ((none : Option (Int × Tok)).map (·.1)) = halfRes G v b none none from rfl, e1] at hG; cases hG
        exact wpAny_execs_nil (fin _ e2 nodes_first s' μ' ad' S' D' T')
      · rw [show halfRes G v b ((none : Option (Int × Tok)).map (·.1)) ((none : Option (Int × Tok)).map (·.1)) = halfRes G v b none none from rfl, e1] at hn; cases hn
    · rw [if_neg (by simpa using w4)]
      rw [if_neg (by simp)]
      exact key s3 S3 fun _ => by omega
  · rw [if_neg (by simp [e])]
    rw [if_neg (by simp)]
    exact key s2 S2 fun q => absurd q e
end
end Mine
end
section -- LawQ
open PySem PySem.W PySem.Calls PyProof.Rows PyProof.V PySem.Spec
set_option maxRecDepth 100000
set_option linter.unusedVariables false
namespace Mine
theorem nat12 (L : Nat) : L + 1 ≠ L + 1 + 1 := by omega
theorem ne12 (L : Addr) : L + 1 ≠ L + 1 + 1 := nat12 L
section
variable {w : World} {K : Frag} {p : Program} {loose : List Str} {mean : ExcName → Option Value} {mg mb : Str → Option Value}
variable {A A' A₀ : Around} {env env' : Env} {base h₀ : Heap} {L : Addr} {m : Str → Option Value} {μ μ' : Mu} {s0 : Anc} {s : Shared} {E : Value → Shared → Prop} {ad ad' : Adr} {G G' : PE}
  {a : Addr} {ccd : Value} {ns : List Int} {st d r l : Addr} {rows : Int → List Int} {la : Int → Addr} {va vr : Option Value} {xs : List Int}
theorem put4 {row : List Int} {way k : Int} {tw tk : Tok} {Q : Flow → Shared → Prop} (F : FLaw K) (H : Here K p loose mean mg mb A (lawEnv L a ccd) h₀ L) (S : At s0 h₀ L s m μ) (C : CellIs μ (L + 1 + 1 + 1 + 1) (some (.ref r))) (R : IntL μ r row) (h5 : row.length ≤ 5)
    (mw : m "way" = some (.int way tw)) (mk : m "k" = some (.int k tk)) (hw : 0 ≤ way ∧ way < 5) (hk : 0 ≤ k ∧ k < 4)
    (hu : A.units + 80 < cLine)
    (h : ∀ s' t, At s0 h₀ L s' (fun z => if z = ("place" : Str) then some (.int (placeOf row way.toNat k.toNat : Nat) t) else m z) μ → Q .next s') :
    wpAny (model P0 w) A (exec (putS 4) (lawEnv L a ccd)) Q E s := by
  obtain ⟨oR, eR, hR'⟩ := C
  obtain ⟨ol, vs, el, lo, hi⟩ := R
  have hlen : vs.length = row.length := hi.length
  have wN : way = (way.toNat : Int) := by omega
  have kN : k = (k.toNat : Int) := by omega
  refine wpAny_Assign_Name (wpAny_IfExp (wpAny_isTrue_BoolOp (wpAny_allTrue_Or_cons (wpAny_isTrue_Compare1 (nameX_L S.fr mw (cInt S fun _ s1 S1 => eq_int (wpAny_truthy_bool ?_))) (by rfl)))))
  by_cases w4 : way = 4
  · rw [if_pos (by simp [w4])]
    rw [if_pos rfl]
    refine cInt S1 fun t s2 S2 => stL S2 fun s3 S3 => h s3 t ?_
    rw [show placeOf row way.toNat k.toNat = 0 by unfold placeOf; rw [if_pos (.inl (by omega))]]
    exact S3
  rw [if_neg (by simpa using w4)]
  refine wpAny_allTrue_Or_cons (wpAny_isTrue_Compare1 (nameCell S1 eR hR' (listLit (wpAny_items_nil ⟨le_line (show 0 ≤ 100 by decide), _, _, S1, fun l0 o0 s2 n0 S2 lo0 => ?_⟩))) (by rfl))
  have el2 : put μ l0 o0 r = some ol := (put_ne fun q => by rw [q, n0] at el; cases el).trans el
  refine eqInts S2 el2 put_self lo lo0 hi .nil (by omega) (wpAny_truthy_bool ?_)
  replace S2 := S2.drop n0
  by_cases e : row = []
  · rw [if_pos (by simp [e])]
    rw [if_pos rfl]
    refine cInt S2 fun t s3 S3 => stL S3 fun s4 S4 => h s4 t ?_
    rw [show placeOf row way.toNat k.toNat = 0 by unfold placeOf; rw [if_pos (.inr e)]]
    exact S4
  rw [if_neg (by simp [e])]
  refine wpAny_allTrue_Or_nil ?_
  rw [if_neg (by simp)]
  have hl0 : 0 < row.length := List.length_pos_iff.mpr e
  refine wpAny_BinOp (wpAny_BinOp (nameX_L S2.fr mk (callB "len" S2 H F.nLen (by decide +kernel) (by decide) (wpAny_items_cons (nameCell S2 eR hR' (wpAny_items_nil (lenL S2 (lo.isList (S2.get el)) (by rw [List.size_toArray]; omega) fun t s5 S5 => ?_)))))))
  rw [List.size_toArray, hlen]
  refine modI S5 (by omega) fun t6 s6 S6 => wpAny_BinOp (nameX_L S6.fr mw (cInt S6 fun _ s7 S7 => modI S7 (by decide) fun _ s8 S8 => addI S8 fun t s9 S9 => stL S9 fun s10 S10 => h s10 t ?_))
  have e1 : k.fmod (row.length : Int) = ((k.toNat % row.length : Nat) : Int) := by conv => lhs; rw [kN, fmod_nat]
  have e2 : way.fmod 2 = ((way.toNat % 2 : Nat) : Int) := by conv => lhs; rw [wN, show (2 : Int) = ((2 : Nat) : Int) from rfl, fmod_nat]
  rw [e1, e2] at S10
  rw [show placeOf row way.toNat k.toNat = k.toNat % row.length + way.toNat % 2 by unfold placeOf; rw [if_neg (fun q => q.elim (fun q => absurd q (by omega)) e)]]
  exact S10

structure LawM (w : World) (ns : List Int) (st cD cT cA cR : Addr) (μ : Mu) (ad : Adr) (G : PE) (ks : List Int) (rows : Int → List Int) (d : Addr) (la : Int → Addr) (va vr : Option Value) : Prop where
  stm : StM μ st ns
  dr : Dr w (del μ st) ad G
  emb : Emb w (del μ st) d ks rows la
  nd : ¬ Fp ad G d
  cD : CellIs (del μ st) cD (some (.ref (ad .x)))
  cT : CellIs (del μ st) cT (some (.ref d))
  cA : CellIs (del μ st) cA va
  cR : CellIs (del μ st) cR vr
abbrev LMm (w : World) (ns : List Int) (st L : Addr) (μ : Mu) (ad : Adr) (G : PE) (ks : List Int) (rows : Int → List Int) (d : Addr) (la : Int → Addr) (va vr : Option Value) : Prop :=
  LawM w ns st (L + 1) (L + 1 + 1) (L + 1 + 1 + 1) (L + 1 + 1 + 1 + 1) μ ad G ks rows d la va vr
theorem LawJ.toM {cD cT cA cR : Addr} (J : LawJ w ns st cD cT cA cR μ ad G G' rows d la va vr) : LawM w ns st cD cT cA cR μ ad G' G.ks rows d la va vr := ⟨J.stm, J.dr, J.emb, J.nd, J.cD, J.cT, J.cA, J.cR⟩
theorem LawM.toI {cD cT cA cR : Addr} {ks : List Int} (J : LawM w ns st cD cT cA cR μ ad G ks rows d la va vr) (hk : G.ks = ks) (hs : G.Same) (hr : Rows G rows) : LawI w ns st cD cT cA cR μ ad G rows d la va vr := ⟨J.stm, J.dr, hs, hr, by rw [hk]; exact J.emb, J.nd, J.cD, J.cT, J.cA, J.cR⟩
theorem stored_map {ks : List Int} {la : Int → Addr} {x : Int} {l : Addr} : stored (ks.map fun v => (v, Value.ref (la v))) x (.ref l) = (addK ks x).map fun v => (v, Value.ref (set1 la x l v)) := by
  unfold addK
  by_cases q : x ∈ ks
  · rw [if_pos q]
    have hany : ((ks.map fun v => (v, Value.ref (la v))).any fun kv => decide (kv.1 = x)) = true := List.any_eq_true.mpr ⟨(x, Value.ref (la x)), List.mem_map.mpr ⟨x, q, rfl⟩, decide_eq_true rfl⟩
    unfold stored
    rw [if_pos hany, List.map_map]
    refine List.map_congr_left fun v hv => ?_
    show (if v = x then (v, Value.ref l) else (v, Value.ref (la v))) = (v, Value.ref (set1 la x l v))
    by_cases e : v = x
    · rw [if_pos e, e, set1_self]
    · rw [if_neg e, set1_ne e]
  · rw [if_neg q, stored_fresh (by rw [fst_map]; exact q), List.map_append]
    congr 1
    · refine List.map_congr_left fun v hv => ?_
      have e : v ≠ x := fun e => q (by rw [← e]; exact hv)
      rw [set1_ne e]
    · simp [set1_self]
theorem LawM.setT {ks : List Int} {x : Int} {row' : List Int} {d' : Addr} {od oc : Obj} (J : LMm w ns st L μ ad G ks rows d la va vr) (hx : Ext μ μ') (e : μ' d' = some od) (n : μ d' = none) (hd : od.IsDictOf (ik w) (stored (ks.map fun v => (v, Value.ref (la v))) x (.ref l))) (R : IntL (del μ' st) l row') (ho : CellO (some (.ref d')) oc) :
    LMm w ns st L (put μ' (L + 1 + 1) oc) ad G (addK ks x) (set1 rows x row') d' (set1 la x l) va vr := by
  have x2 := ext_del2 (x := st) hx
  have cT := J.cT.mono x2
  have hne := cT.ne_st
  have hdst : d' ≠ st := fun q => by
    obtain ⟨os, es, _⟩ := J.stm.some
    rw [q, es] at n; cases n
  have D' : Dr w (del μ' st) ad G := J.dr.mono fun r l o e => x2 _ _ e
  have embM : Emb w (del μ' st) d' (addK ks x) (set1 rows x row') (set1 la x l) := by
    refine ⟨⟨od, (del_ne hdst).trans e, by rw [← stored_map]; exact hd⟩, fun v hv => ?_⟩
    by_cases q : v = x
    · subst q; rw [set1_self, set1_self]; exact R
    · rw [set1_ne q, set1_ne q]
      have : v ∈ ks := by
        unfold addK at hv
        split at hv
        · exact hv
        · rcases List.mem_append.mp hv with z | z
          · exact z
          · exact absurd (List.mem_singleton.mp z) q
      obtain ⟨ol, vs, e1, a1, b1⟩ := J.emb.2 v this
      exact ⟨ol, vs, x2 _ _ e1, a1, b1⟩
  refine ⟨(J.stm.mono hx).putC (cT.mono del_le), ?_, ?_, ?_, ?_, ?_, ?_, ?_⟩
  · rw [del_put_ne hne]; exact D'.off (cT.off D')
  · rw [del_put_ne hne]; exact embM.putC cT
  · rintro ⟨rr, lv, q⟩
    obtain ⟨o, e1, _⟩ := J.dr.at_ rr lv
    rw [q] at e1
    have := del_le _ _ e1
    rw [n] at this; cases this
  · rw [del_put_ne hne]; exact (J.cD.mono x2).put_ne (ne12 L)
  · rw [del_put_ne hne]; exact ⟨oc, put_self, ho⟩
  · rw [del_put_ne hne]; exact (J.cA.mono x2).put_ne (ne23 L).symm
  · rw [del_put_ne hne]; exact (J.cR.mono x2).put_ne (ne24 L).symm
end
end Mine
end
section -- LawR
open PySem PySem.W PySem.Calls PyProof.Rows PyProof.V PySem.Spec
set_option maxRecDepth 100000
set_option linter.unusedVariables false
namespace Mine
section
variable {w : World} {K : Frag} {p : Program} {loose : List Str} {mean : ExcName → Option Value} {mg mb : Str → Option Value}
variable {A A' A₀ : Around} {env env' : Env} {base h₀ : Heap} {L : Addr} {m : Str → Option Value} {μ μ' : Mu} {s0 : Anc} {s : Shared} {E : Value → Shared → Prop} {ad ad' : Adr} {G G' : PE}
  {a : Addr} {ccd : Value} {ns : List Int} {st d r l : Addr} {rows : Int → List Int} {la : Int → Addr} {va vr : Option Value} {xs : List Int}
theorem partN {Q : Value → Shared → Prop} (h : Q .none s) : wpAny (model P0 w) A (evalPart none env) Q E s := by rw [evalPart_none]; exact wpAny_pure h
theorem partS {e : PySem.Expr} {Q : Value → Shared → Prop} (h : wpAny (model P0 w) A (eval e env) Q E s) : wpAny (model P0 w) A (evalPart (some e) env) Q E s := by rw [evalPart_some]; exact h
def IsRow (st : Addr) (row : List Int) (v : Value) (μ : Mu) : Prop := ∃ l, v = .ref l ∧ IntL (del μ st) l row
theorem IsRow.keep {row : List Int} (v : Value) (μ μ' : Mu) (x : ExtL μ μ') (h : IsRow st row v μ) : IsRow st row v μ' := by
  obtain ⟨l, rfl, R⟩ := h
  have hne := R.ne_st
  obtain ⟨o, vs, e, lo, hi⟩ := R
  rw [del_ne hne] at e
  exact ⟨l, rfl, o, vs, (del_ne hne).trans (x _ _ e lo.1), lo, hi⟩
theorem addK_len {ks : List Int} {v : Int} : (addK ks v).length ≤ ks.length + 1 := by
  unfold addK; split <;> simp
theorem put5 {ks : List Int} {v b : Int} {tv tb tp : Tok} {row : List Int} {pl : Nat} {Q : Flow → Shared → Prop} (F : FLaw K) (H : Here K p loose mean mg mb A (lawEnv L a ccd) h₀ L) (S : At s0 h₀ L s m μ) (J : LMm w ns st L μ ad G ks rows d la (some (.int v tv)) (some (.ref r))) (R : IntL (del μ st) r row) (h5 : row.length ≤ 5) (hks : ks.length ≤ 50)
    (mb' : m "b" = some (.int b tb)) (mp : m "place" = some (.int (pl : Int) tp))
    (h : ∀ s' μ' d' la', At s0 h₀ L s' m μ' → Frm μ μ' → LMm w ns st L μ' ad G (addK ks v) (set1 rows v (insAt row pl b)) d' la' (some (.int v tv)) (some (.ref r)) → Q .next s') :
    wpAny (model P0 w) A (exec (putS 5) (lawEnv L a ccd)) Q E s := by
  obtain ⟨odt, edt, hdt⟩ := J.emb.1
  obtain ⟨oT, eT, hT⟩ := J.cT
  obtain ⟨oA, eA, hA'⟩ := J.cA
  obtain ⟨oR, eR, hR'⟩ := J.cR
  obtain ⟨os, es, _⟩ := J.stm.some
  obtain ⟨ol, vs, el, lo, hi⟩ := R
  have hlen : vs.length = row.length := hi.length
  refine wpAny_Assign_Name (dispStar (IsRow st (insAt row pl b)) IsRow.keep S (del_le _ _ edt) hdt (by rw [List.length_map]; exact hks) (fun {μ1 s1 Q' E'} x1 S1 q => nameCell S1 (x1 _ _ (del_le _ _ eT)) hT q) (fun {μ1 s1 Q' E'} x1 S1 q => nameCell S1 (x1 _ _ (del_le _ _ eA)) hA' q) (fun {μ1 s1 Q' E'} x1 S1 q => ?_) fun d' od μ' s' v' x' ed' nd' hd' good S' => ?_)
  · have el1 := x1 _ _ (del_le _ _ el)
    have eR1 := x1 _ _ (del_le _ _ eR)
    refine wpAny_BinOp (wpAny_BinOp (sliceR (nameCell S1 eR1 hR' (partN (partS (nameX_L S1.fr mp ⟨r, vs.toArray, none, some (pl : Int), m, μ1, rfl, S1, lo.isList (S1.get el1), by rw [List.size_toArray, hlen]; exact le_line (show _ ≤ 100 by omega), .none, .int _ _, fun D1 o1 s2 n1 S2 lo1 => ?_⟩))))))
    rw [slicePick_upto', List.toList_toArray] at lo1
    refine listLit (wpAny_items_cons (nameX_L S2.fr mb' (wpAny_items_nil ⟨le_line (show 1 ≤ 100 by decide), _, _, S2, fun D2 o2 s3 n2 S3 lo2 => ?_⟩)))
    have e13 : put (put μ1 D1 o1) D2 o2 D1 = some o1 := (put_ne fun z => by rw [← z, put_self] at n2; cases n2).trans put_self
    refine addL S3 e13 lo1 put_self lo2 (by rw [List.length_take]; exact le_line (show _ ≤ 100 by simp; omega)) fun D3 o3 s4 n3 S4 lo3 => ?_
    have x2 : Ext μ1 (put μ1 D1 o1) := Ext.new n1
    have x3 : Ext (put μ1 D1 o1) (put (put μ1 D1 o1) D2 o2) := Ext.new n2
    have x4 : Ext (put (put μ1 D1 o1) D2 o2) (put (put (put μ1 D1 o1) D2 o2) D3 o3) := Ext.new n3
    have x14 := x2.trans (x3.trans x4)
    have el4 := x14 _ _ el1
    refine sliceR (nameCell S4 (x14 _ _ eR1) hR' (partS (nameX_L S4.fr mp (partN ⟨r, vs.toArray, some (pl : Int), none, m, _, rfl, S4, lo.isList (S4.get el4), by rw [List.size_toArray, hlen]; exact le_line (show _ ≤ 100 by omega), .int _ _, .none, fun D4 o4 s5 n4 S5 lo4 => ?_⟩))))
    rw [slicePick_from', List.toList_toArray] at lo4
    have e35 : put (put (put (put μ1 D1 o1) D2 o2) D3 o3) D4 o4 D3 = some o3 := (put_ne fun z => by rw [← z, put_self] at n4; cases n4).trans put_self
    refine addL S5 e35 lo3 put_self lo4 (by rw [List.length_append, List.length_take, List.length_drop]; exact le_line (show _ ≤ 100 by simp; omega)) fun D5 o5 s6 n5 S6 lo5 => ?_
    have x5 : Ext (put (put (put μ1 D1 o1) D2 o2) D3 o3) (put (put (put (put μ1 D1 o1) D2 o2) D3 o3) D4 o4) := Ext.new n4
    have x6 : Ext (put (put (put (put μ1 D1 o1) D2 o2) D3 o3) D4 o4) (put (put (put (put (put μ1 D1 o1) D2 o2) D3 o3) D4 o4) D5 o5) := Ext.new n5
    refine q _ s6 _ (x14.trans (x5.trans x6)) S6 ⟨D5, rfl, o5, _, ?_, lo5, ?_⟩
    · have nst : D5 ≠ st := fun z => by rw [z, x5 _ _ (x14 _ _ (x1 _ _ es))] at n5; cases n5
      rw [del_ne nst, put_self]
    · have := ((hi.take pl).append (.cons b tb .nil)).append (hi.drop pl)
      rw [show insAt row pl b = row.take pl ++ [b] ++ row.drop pl by simp [insAt]]
      simpa using this
  · obtain ⟨l, rfl, R'⟩ := good
    refine stCell S' (x' _ _ (del_le _ _ eT)) hT fun s2 o2 S2 ho2 => ?_
    exact h s2 _ d' _ S2 ((Frm.of x').trans (Frm.putC (J.cT.mono (ext_del2 x') |>.mono del_le))) (J.setT x' ed' nd' hd' R' ho2)
end
end Mine
end
section -- LawS
open PySem PySem.W PySem.Calls PyProof.Rows PyProof.V PySem.Spec
set_option maxRecDepth 100000
set_option linter.unusedVariables false
namespace Mine
theorem set1_same {α : Type} {f : Int → α} {v : Int} : set1 f v (f v) = f := by
  funext u
  by_cases q : u = v
  · subst q; rw [set1_self]
  · rw [set1_ne q]
section
variable {w : World} {K : Frag} {p : Program} {loose : List Str} {mean : ExcName → Option Value} {mg mb : Str → Option Value}
variable {A A' A₀ : Around} {env env' : Env} {base h₀ : Heap} {L : Addr} {m : Str → Option Value} {μ μ' : Mu} {s0 : Anc} {s : Shared} {E : Value → Shared → Prop} {ad ad' : Adr} {G G' : PE}
  {a : Addr} {ccd : Value} {ns : List Int} {st d r l : Addr} {rows : Int → List Int} {la : Int → Addr} {va vr : Option Value} {xs : List Int}
theorem put6 {ks : List Int} {b : Int} {tb : Tok} {Q : Flow → Shared → Prop} (F : FLaw K) (H : Here K p loose mean mg mb A (lawEnv L a ccd) h₀ L) (S : At s0 h₀ L s m μ) (J : LMm w ns st L μ ad G ks rows d la va vr) (hks : ks.length ≤ 50)
    (mb' : m "b" = some (.int b tb)) (hout : b ∉ ks → rows b = [])
    (h : ∀ s' μ' d' la', At s0 h₀ L s' m μ' → Frm μ μ' → LMm w ns st L μ' ad G (addK ks b) rows d' la' va vr → Q .next s') :
    wpAny (model P0 w) A (exec (putS 6) (lawEnv L a ccd)) Q E s := by
  obtain ⟨odt, edt, hdt⟩ := J.emb.1
  obtain ⟨oT, eT, hT⟩ := J.cT
  obtain ⟨os, es, _⟩ := J.stm.some
  refine wpAny_Assign_Name (dispStar (IsRow st (rows b)) IsRow.keep S (del_le _ _ edt) hdt (by rw [List.length_map]; exact hks) (fun {μ1 s1 Q' E'} x1 S1 q => nameCell S1 (x1 _ _ (del_le _ _ eT)) hT q) (fun {μ1 s1 Q' E'} x1 S1 q => nameX_L S1.fr mb' q) (fun {μ1 s1 Q' E'} x1 S1 q => ?_) fun d' od μ' s' v' x' ed' nd' hd' good S' => ?_)
  · refine MethodCall_ (nameCell S1 (x1 _ _ (del_le _ _ eT)) hT (dGetM S1 (x1 _ _ (del_le _ _ edt)) hdt (cwB (wpAny_items_cons (nameX_L S1.fr mb' (wpAny_items_cons (listLit (wpAny_items_nil ⟨le_line (show 0 ≤ 100 by decide), _, _, S1, fun l o s2 nl S2 lo => wpAny_items_nil ?_⟩))))))))
    have x2 : Ext μ1 (put μ1 l o) := Ext.new nl
    refine dGet2 S2 (x2 _ _ (x1 _ _ (del_le _ _ edt))) hdt (intKind_is ..) fun s3 S3 => ?_
    rw [valueAt_map]
    have nst : l ≠ st := fun z => by rw [z, x1 _ _ es] at nl; cases nl
    by_cases z : b ∈ ks
    · rw [if_pos z]
      obtain ⟨o4, vs4, e4, l4, i4⟩ := J.emb.2 b z
      exact q _ s3 _ x2 S3 ⟨la b, rfl, o4, vs4, (ext_del2 (x1.trans x2)) _ _ e4, l4, i4⟩
    · rw [if_neg z]
      exact q _ s3 _ x2 S3 ⟨l, rfl, o, [], (del_ne nst).trans put_self, lo, by rw [hout z]; exact .nil⟩
  · obtain ⟨l, rfl, R'⟩ := good
    refine stCell S' (x' _ _ (del_le _ _ eT)) hT fun s2 o2 S2 ho2 => ?_
    have := J.setT x' ed' nd' hd' R' ho2
    rw [set1_same] at this
    exact h s2 _ d' _ S2 ((Frm.of x').trans (Frm.putC (J.cT.mono (ext_del2 x') |>.mono del_le))) this
end
end Mine
end
section -- LawT
open PySem PySem.W PySem.Calls PyProof.Rows PyProof.V PySem.Spec
set_option maxRecDepth 100000
set_option linter.unusedVariables false
namespace Mine
theorem mem_addK {ks : List Int} {v x : Int} : x ∈ addK ks v ↔ x ∈ ks ∨ x = v := by
  unfold addK
  split
  · rename_i h
    exact ⟨.inl, fun q => q.elim id fun e => e ▸ h⟩
  · simp
section
variable {w : World} {K : Frag} {p : Program} {loose : List Str} {mean : ExcName → Option Value} {mg mb : Str → Option Value}
variable {A A' A₀ : Around} {env env' : Env} {base h₀ : Heap} {L : Addr} {m : Str → Option Value} {μ μ' : Mu} {s0 : Anc} {s : Shared} {E : Value → Shared → Prop} {ad ad' : Adr} {G G' : PE}
  {a : Addr} {ccd : Value} {ns : List Int} {st d r l : Addr} {rows : Int → List Int} {la : Int → Addr} {va vr : Option Value} {xs : List Int}
theorem ks5 (D : Dr w μ ad G) : G.ks.length ≤ 5 := by
  obtain ⟨o, e, c⟩ := D.at_ .sd trivial
  have h := isDict_nodup (show o.IsDictOf _ _ from c)
  rw [fst_map] at h
  exact le5 h D.ok.ks
theorem turn3 {v : Int} {tv : Tok} {Q : Flow → Shared → Prop} (F : FLaw K) (H : Here K p loose mean mg mb A (lawEnv L a ccd) h₀ L) (B : Below A₀ base [] h₀) (hA : A.frames = some [lawEnv L a ccd]) (XB : K.In base) (TB : Top p loose mean mg mb base) (S : At s0 h₀ L s m μ) (hJ : s0.J = AllBare) (I : LI w ns st L μ ad G rows d la (some (.int v tv)) (some (.ref r))) (R : IntL (del μ st) r (rows v)) (O : IntL (del μ st) l (othersOf v (rows v))) (hns : ns.length ≤ 60)
    (ms : m "state" = some (.ref st)) (mo : m "others" = some (.ref l)) (hv : 0 ≤ v ∧ v < 5)
    (hroom : A.depth + 5 < recursionLimit) (hu : A.units + 80 < cLine)
    (h : ∀ s' m' μ' ad' G' rows' d' la' va' vr', m' "state" = some (.ref st) → At s0 h₀ L s' m' μ' → Frm μ μ' → LI w ns st L μ' ad' G' rows' d' la' va' vr' → Q .next s') : wpAny (model P0 w) A (exec (turnS 3) (lawEnv L a ccd)) Q E s := by
  obtain ⟨ol, vs, el, lo, hi⟩ := O.mono del_le
  refine wpAny_If (wpAny_isTrue_Compare1 (nameX_L S.fr mo (listLit (wpAny_items_nil ⟨le_line (show 0 ≤ 100 by decide), _, _, S, fun l0 o0 s2 n0 S2 lo0 => ?_⟩))) (by rfl))
  have el2 : put μ l0 o0 l = some ol := (put_ne fun q => by rw [q, n0] at el; cases el).trans el
  refine neInts S2 el2 put_self lo lo0 hi .nil (by omega) (wpAny_truthy_bool ?_)
  replace S2 := S2.drop n0
  by_cases e : othersOf v (rows v) = []
  · rw [if_neg (by simp [e])]
    exact wpAny_execs_nil (h s2 m μ ad G rows d la _ _ ms S2 (Frm.of (Ext.rfl' μ)) I)
  rw [if_pos (by simp [e])]
  refine wpAny_execs_cons (put0 F H S2 I.stm O hns ms mo e (othersOf_len _ _) (by omega) fun s3 μ3 b tb hb S3 x3 => ?_)
  have I3 := I.same_ x3
  have R3 : IntL (del μ3 st) r (rows v) := by rw [x3.2]; exact R
  have O3 : IntL (del μ3 st) l (othersOf v (rows v)) := by rw [x3.2]; exact O
  refine wpAny_execs_cons (put1 F H S3 I3.stm hns ((if_neg (by decide)).trans ms) (by omega) fun s4 μ4 way k asked t1 t2 t3 hw hk hq S4 x4 => ?_)
  have I4 := I3.same_ x4
  have R4 : IntL (del μ4 st) r (rows v) := by rw [x4.2]; exact R3
  have O4 : IntL (del μ4 st) l (othersOf v (rows v)) := by rw [x4.2]; exact O3
  have mb4 : (fun z => if z = ("way" : Str) then some (.int way t1) else if z = ("k" : Str) then some (.int k t2) else if z = ("asked" : Str) then some (.int asked t3) else (fun z => if z = ("b" : Str) then some (.int b tb) else m z) z) ("b" : Str) = some (Value.int b tb) := (if_neg (by decide)).trans ((if_neg (by decide)).trans ((if_neg (by decide)).trans (if_pos rfl)))
  have mq4 : (fun z => if z = ("way" : Str) then some (.int way t1) else if z = ("k" : Str) then some (.int k t2) else if z = ("asked" : Str) then some (.int asked t3) else (fun z => if z = ("b" : Str) then some (.int b tb) else m z) z) ("asked" : Str) = some (Value.int asked t3) := (if_neg (by decide)).trans ((if_neg (by decide)).trans (if_pos rfl))
  have mk4 : (fun z => if z = ("way" : Str) then some (.int way t1) else if z = ("k" : Str) then some (.int k t2) else if z = ("asked" : Str) then some (.int asked t3) else (fun z => if z = ("b" : Str) then some (.int b tb) else m z) z) ("k" : Str) = some (Value.int k t2) := (if_neg (by decide)).trans (if_pos rfl)
  have mw4 : (fun z => if z = ("way" : Str) then some (.int way t1) else if z = ("k" : Str) then some (.int k t2) else if z = ("asked" : Str) then some (.int asked t3) else (fun z => if z = ("b" : Str) then some (.int b tb) else m z) z) ("way" : Str) = some (Value.int way t1) := if_pos rfl
  have ms4 : (fun z => if z = ("way" : Str) then some (.int way t1) else if z = ("k" : Str) then some (.int k t2) else if z = ("asked" : Str) then some (.int asked t3) else (fun z => if z = ("b" : Str) then some (.int b tb) else m z) z) ("state" : Str) = some (Value.ref st) := (if_neg (by decide)).trans ((if_neg (by decide)).trans ((if_neg (by decide)).trans ((if_neg (by decide)).trans ms)))
  have mo4 : (fun z => if z = ("way" : Str) then some (.int way t1) else if z = ("k" : Str) then some (.int k t2) else if z = ("asked" : Str) then some (.int asked t3) else (fun z => if z = ("b" : Str) then some (.int b tb) else m z) z) ("others" : Str) = some (Value.ref l) := (if_neg (by decide)).trans ((if_neg (by decide)).trans ((if_neg (by decide)).trans ((if_neg (by decide)).trans mo)))
  generalize (fun z => if z = ("way" : Str) then some (.int way t1) else if z = ("k" : Str) then some (.int k t2) else if z = ("asked" : Str) then some (.int asked t3) else (fun z => if z = ("b" : Str) then some (.int b tb) else m z) z : Str → Option Value) = m4 at *
  refine wpAny_execs_cons (put2 F H B hA XB TB S4 hJ I4 R4 O4 hns ms4 mo4 mb4 mq4 hv hb hq.1 hroom hu fun s5 μ5 S5 x5 => ?_)
  have I5 := I4.goes x5
  have R5 := R4.mono x5.2
  refine wpAny_execs_cons (put3 F H B hA S5 I5 R5 mb4 mw4 mk4 hv hb hw hk hroom hu fun s6 μ6 ad6 G6 S6 f6 J6 hr6 hn6 R6 => ?_)
  have h5 := I5.rws.le5 I5.D v
  have k5 := ks5 I5.D
  refine wpAny_execs_cons (put4 F H S6 (J6.cR.mono del_le) (R6.mono del_le) h5 mw4 mk4 hw hk hu fun s7 t7 S7 => ?_)
  have kk : (addK G.ks v).length ≤ 6 := Nat.le_trans addK_len (by omega)
  refine wpAny_execs_cons (put5 F H S7 J6.toM R6 h5 (by omega) ((if_neg (by decide)).trans mb4) (if_pos rfl) fun s8 μ8 d8 la8 S8 f8 J8 => ?_)
  refine wpAny_execs_cons (put6 F H S8 J8 (by omega) ((if_neg (by decide)).trans mb4) (fun q => ?_) fun s9 μ9 d9 la9 S9 f9 J9 => ?_)
  · rw [mem_addK] at q
    rw [set1_ne fun z => q (.inr z)]
    exact I5.out fun z => q (.inl z)
  · exact wpAny_execs_nil (h s9 _ μ9 ad6 G6 _ d9 la9 _ _ ((if_neg (by decide)).trans ms4) S9 ((Frm.goes I.stm x3.goes.2).trans ((Frm.goes I3.stm x4.goes.2).trans ((Frm.goes I4.stm x5.2).trans (f6.trans (f8.trans f9))))) (J9.toI hn6.ks (hn6.same ((I5.same.addV v).addV b)) hr6))

theorem turnAll {Q : Flow → Shared → Prop} (F : FLaw K) (H : Here K p loose mean mg mb A (lawEnv L a ccd) h₀ L) (B : Below A₀ base [] h₀) (hA : A.frames = some [lawEnv L a ccd]) (XB : K.In base) (TB : Top p loose mean mg mb base) (S : At s0 h₀ L s m μ) (hJ : s0.J = AllBare) (I : LI w ns st L μ ad G rows d la va vr) (hns : ns.length ≤ 60)
    (ms : m "state" = some (.ref st))
    (hroom : A.depth + 5 < recursionLimit) (hu : A.units + 80 < cLine)
    (h : ∀ s' m' μ' ad' G' rows' d' la' va' vr', m' "state" = some (.ref st) → At s0 h₀ L s' m' μ' → Frm μ μ' → LI w ns st L μ' ad' G' rows' d' la' va' vr' → Q .next s') : wpAny (model P0 w) A (execs (fbody (lawS 3)) (lawEnv L a ccd)) Q E s := by
  refine wpAny_execs_cons (turn0 F H S I hns ms (by omega) fun s1 μ1 v t h0 h5 S1 f1 I1 => ?_)
  refine wpAny_execs_cons (turn1 F H S1 I1 fun s2 μ2 r S2 f2 I2 R2 => ?_)
  refine wpAny_execs_cons (turn2 F H S2 I2 R2 fun s3 μ3 l S3 x3 O3 => ?_)
  have R3 := R2.mono (ext_del2 x3)
  refine wpAny_execs_cons (turn3 F H B hA XB TB S3 hJ (I2.mono x3) R3 O3 hns ((if_neg (by decide)).trans ms) (if_pos rfl) ⟨h0, h5⟩ hroom hu fun s4 m4 μ4 ad4 G4 rows4 d4 la4 va4 vr4 ms4 S4 f4 I4 => ?_)
  refine wpAny_execs_cons (checkS F H S4 hJ I4 (by omega) (by omega) fun s5 μ5 S5 x5 => ?_)
  exact wpAny_execs_nil (h s5 m4 μ5 ad4 G4 rows4 d4 la4 va4 vr4 ms4 S5 (f1.trans (f2.trans ((Frm.of x3).trans (f4.trans (Frm.of x5))))) (I4.mono x5))
end
end Mine
end
section -- LawU
open PySem PySem.W PySem.Calls PyProof.Rows PyProof.V PySem.Spec
set_option maxRecDepth 100000
set_option linter.unusedVariables false
namespace Mine
section
variable {w : World} {K : Frag} {p : Program} {loose : List Str} {mean : ExcName → Option Value} {mg mb : Str → Option Value}
variable {A A' A₀ : Around} {env env' : Env} {base h₀ : Heap} {L : Addr} {m : Str → Option Value} {μ μ' : Mu} {s0 : Anc} {s : Shared} {E : Value → Shared → Prop} {ad ad' : Adr} {G G' : PE}
  {a : Addr} {ccd : Value} {ns : List Int} {st d r l : Addr} {rows : Int → List Int} {la : Int → Addr} {va vr : Option Value} {xs : List Int}
theorem RgI.itr {n i : Nat} {o : Obj} (h : RgI 0 n i o) : Itr o := by
  rw [h]; exact ⟨rfl, _, rfl⟩
theorem Itr.ne {o : Obj} {J b : Addr} {x y : Obj} (hi : Itr o) (e : μ J = some o) (e' : μ b = some x) (h : ¬ Itr x) : put μ J y b = some x := (put_ne fun q => by
  rw [q, e] at e'; cases e'; exact h hi).trans e'
theorem LO.noItr {vs : List Value} {o : Obj} (h : LO vs o) : ¬ Itr o := fun q => by
  have := q.1; rw [h.1] at this; simp at this
theorem CellO.noItr {v : Option Value} {o : Obj} (h : CellO v o) : ¬ Itr o := fun q => by
  obtain ⟨_, fs, hf⟩ := q
  rw [show o.data = .cell v from h] at hf; cases hf
theorem dict_noItr {KK : Type} [DecidableEq KK] {knd : KeyKind P0 w KK} {kvs : List (KK × Value)} {o : Obj} (h : o.IsDictOf knd kvs) : ¬ Itr o := fun q => by
  have := q.1; rw [isDict_cls h] at this; simp at this
theorem CellIs.putI {c J : Addr} {v : Option Value} {o x : Obj} (y : CellIs μ c v) (hi : Itr o) (e : μ J = some o) : CellIs (put μ J x) c v := let ⟨oc, ec, hc⟩ := y; ⟨oc, hi.ne e ec hc.noItr, hc⟩
theorem LawI.putI {J : Addr} {o x : Obj} (I : LI w ns st L μ ad G rows d la va vr) (hi : Itr o) (e : μ J = some o) : LI w ns st L (put μ J x) ad G rows d la va vr := by
  have hne : J ≠ st := Frm.ne_st I.stm hi e
  have e' : del μ st J = some o := (del_ne hne).trans e
  refine ⟨?_, ?_, I.same, I.rws, ?_, I.nd, ?_, ?_, ?_, ?_⟩
  · obtain ⟨scr, o1, oscr, ws, i, t1, hh, t2, hst, hlo, hscr, hlos, r⟩ := I.stm
    exact ⟨scr, o1, oscr, ws, i, t1, hh, t2, hi.ne e hst hlo.noItr, hlo, hi.ne e hscr hlos.noItr, hlos, r⟩
  all_goals rw [del_put_ne hne]
  · exact I.dr.off (I.dr.off_cls e' (by rw [hi.1]; simp) (by rw [hi.1]; simp))
  · obtain ⟨⟨od, ed, hd⟩, r⟩ := I.emb
    exact ⟨⟨od, hi.ne e' ed (dict_noItr hd), hd⟩, fun u hu => let ⟨ol, vs, el, a, b⟩ := r u hu; ⟨ol, vs, hi.ne e' el a.noItr, a, b⟩⟩
  · exact I.cD.putI hi e'
  · exact I.cT.putI hi e'
  · exact I.cA.putI hi e'
  · exact I.cR.putI hi e'
theorem law3 {Q : Flow → Shared → Prop} (F : FLaw K) (H : Here K p loose mean mg mb A (lawEnv L a ccd) h₀ L) (B : Below A₀ base [] h₀) (hA : A.frames = some [lawEnv L a ccd]) (XB : K.In base) (TB : Top p loose mean mg mb base) (S : At s0 h₀ L s m μ) (hJ : s0.J = AllBare) (I : LI w ns st L μ ad G rows d la va vr) (hns : ns.length ≤ 60)
    (ms : m "state" = some (.ref st))
    (hroom : A.depth + 5 < recursionLimit) (hu : A.units + 80 < cLine) (hE : PassesOwn (model P0 w) A (lawEnv L a ccd) E)
    (h : ∀ s' m' μ', At s0 h₀ L s' m' μ' → Q .next s') : wpAny (model P0 w) A (exec (lawS 3) (lawEnv L a ccd)) Q E s := by
  refine forName (fun J k s => ∃ n i oJ m μ ad G rows d la va vr, i + k = n ∧ At s0 h₀ L s m μ ∧ μ J = some oJ ∧ RgI 0 n i oJ ∧ m ("state" : Str) = some (.ref st) ∧ LI w ns st L μ ad G rows d la va vr) ?_ (fun J k s hSt => ?_) (hE := hE)
  · refine callT "range" S H F.nRange (by decide +kernel) (by decide) (wpAny_items_cons (wpAny_BinOp (cInt S fun t1 s1 S1 => lawNext (many := 9) F H S1 I.stm hns ms (by omega) (by omega) (fun S2 k => cInt S2 fun t s2 S3 => k t s2 S3) fun s2 v t o' v0 v9 S2 Z2 => addI S2 fun t3 s3 S3 => wpAny_items_nil ?_)))
    have I2 := I.next Z2
    have e : (1 : Int) + v = ((1 + v.toNat : Nat) : Int) := by omega
    rw [e]
    refine rangeGo S3 (by omega) fun J oJ μ4 s4 x4 n4 S4 hJ4 => ?_
    exact ⟨J, 1 + v.toNat, rfl, 1 + v.toNat, 0, oJ, m, _, ad, G, rows, d, la, va, vr, by omega, S4, put_self, hJ4, ms, (I2.mono x4).mono (Ext.new n4)⟩
  · obtain ⟨n, i, oJ, m1, μ1, ad1, G1, rows1, d1, la1, va1, vr1, hik, S1, eJ, hJ1, ms1, I1⟩ := hSt
    have IR := itRange (w := w) (A := A) H.hand J 0 n
    by_cases hi : i < n
    · refine IR.item hi S1 eJ hJ1 trivial fun v s2 oJ2 hv S2 hJ2 => ?_
      refine stL S2 fun s3 S3 => ?_
      have I2 := I1.putI (x := oJ2) hJ1.itr eJ
      refine turnAll F H B hA XB TB S3 hJ I2 hns ((if_neg (by decide)).trans ms1) hroom hu fun s' m' μ' ad' G' rows' d' la' va' vr' ms' S' f' I' => ?_
      exact ⟨k - 1, by omega, n, i + 1, oJ2, m', μ', ad', G', rows', d', la', va', vr', by omega, S', f' _ _ hJ2.itr put_self, hJ2, ms', I'⟩
    · have hin : i = n := by omega
      subst hin
      exact IR.done S1 eJ hJ1 trivial fun s2 S2 => h s2 _ _ S2
end
end Mine
end
section -- LawV
open PySem PySem.W PySem.Calls PyProof.Rows PyProof.V PySem.Spec
set_option maxRecDepth 100000
set_option linter.unusedVariables false
namespace Mine
theorem nat34 (L : Nat) : L + 1 + 1 + 1 ≠ L + 1 + 1 + 1 + 1 := by omega
section
variable {w : World} {K : Frag} {p : Program} {loose : List Str} {mean : ExcName → Option Value} {mg mb : Str → Option Value}
variable {A A' A₀ : Around} {env env' : Env} {base h₀ : Heap} {L : Addr} {m : Str → Option Value} {μ μ' : Mu} {s0 : Anc} {s : Shared} {E : Value → Shared → Prop} {ad ad' : Adr} {G G' : PE}
  {a : Addr} {ccd : Value} {ns : List Int} {st d r l : Addr} {rows : Int → List Int} {la : Int → Addr} {va vr : Option Value} {xs : List Int}
theorem law0 {sc : Addr} {vs : List Value} {Q : Flow → Shared → Prop} (H : Here K p loose mean mg mb A (lawEnv L a ccd) h₀ L) (S : At s0 h₀ L s m μ) (hm : m "script" = some (.ref sc)) (hsc : h₀.IsList sc vs.toArray) (hi : IntsAre vs xs) (h63 : xs.length ≤ 63)
    (h : ∀ s' μ' st, At s0 h₀ L s' (fun z => if z = ("state" : Str) then some (.ref st) else m z) μ' → Ext μ μ' → μ st = none → StM μ' st (xs.take 60) → Q .next s') : wpAny (model P0 w) A (exec (lawS 0) (lawEnv L a ccd)) Q E s := by
  have hlen : vs.length = xs.length := hi.length
  refine wpAny_Assign_Name (listLit (s0 := s0) (h₀ := h₀) (L := L) (wpAny_items_cons (sliceR (nameX_L S.fr hm (partN (partS (cInt S fun t1 s1 S1 => ⟨sc, vs.toArray, none, some ((60 : Nat) : Int), m, μ, rfl, S1, ?_, by rw [List.size_toArray, hlen]; exact le_line (show _ ≤ 100 by omega), .none, .int _ _, fun D1 o1 s2 n1 S2 lo1 => ?_⟩)))))))
  · obtain ⟨o, eo, r⟩ := hsc
    exact ⟨o, S1.fr.keep _ _ eo, r⟩
  rw [slicePick_upto', List.toList_toArray] at lo1
  refine wpAny_items_cons (cInt S2 fun t2 s3 S3 => wpAny_items_cons (cInt S3 fun t3 s4 S4 => wpAny_items_nil ⟨le_line (show 3 ≤ 100 by decide), _, _, S4, fun D2 o2 s5 n2 S5 lo2 => stL S5 fun s6 S6 => ?_⟩))
  have hne : D1 ≠ D2 := fun q => by rw [← q, put_self] at n2; cases n2
  refine h s6 _ D2 S6 ((Ext.new n1).trans (Ext.new n2)) ?_ ⟨D1, o2, o1, vs.take 60, 0, t2, 17, t3, put_self, lo2, (put_ne hne).trans put_self, lo1, hi.take 60, by omega, by omega, by omega, by omega, hne⟩
  cases q : μ D2 with
  | none => rfl
  | some o => rw [Ext.new n1 _ _ q] at n2; cases n2

theorem tupAsgP {elts vals : List PySem.Expr} {k j : Nat} {tpos vpos pos : Pos} {Q : Flow → Shared → Prop} (hh : A.handled = none)
    (h : wpAny (model P0 w) A (spliced (backTo vpos (starEach vals env))) (fun vs s₁ => (assignEach elts env).length = vs.length ∧ vs.length ≤ sizeLine ∧ ∃ m μ, At s0 h₀ L s₁ m μ ∧
      ∀ s₂, At s0 h₀ L s₂ m μ → wpAny (model P0 w) A (assignInOrder ((assignEach elts env).map (·.2)) vs) (fun _ => Q .next) E s₂) E s)
    (hstar : (assignEach elts env).findIdx? (·.1) = none := by rfl)
    (hs : swapsWithSole [.Tuple elts k tpos] (.Tuple vals j vpos) pos.line env = pure false := by rfl)
    (hw : swappedStores [.Tuple elts k tpos] (.Tuple vals j vpos) env = pure none := by rfl) :
    wpAny (model P0 w) A (exec (.Assign [.Tuple elts k tpos] (.Tuple vals j vpos) pos) env) Q E s := by
  refine Assign_Tuple (wpAny_Tuple (wpAny_mono h (fun vs s₁ h₁ => ?_) fun _ _ x => x)) hs hw
  obtain ⟨hl, hz, m, μ, S, h₂⟩ := h₁
  refine ⟨hz, ?_⟩
  have hT : IsTup (s₁.heap.push { cls := .type "tuple", data := .seq vs.toArray }) s₁.heap.objs.size vs.toArray := ⟨_, Heap.get?_push_size _ rfl, rfl, _, rfl⟩
  refine assign_Tuple_tuple hh hT (by rw [List.size_toArray]; exact hl) hstar fun h' he => ?_
  have := h₂ { s₁ with heap := h' } ⟨((S.sit.push _).ext he (Nat.le_refl _)).sub fun b ob e => (put_ne fun q => by rw [q, S.sit.new_none] at e; cases e).trans e, S.kp⟩
  simpa using this

theorem law1 {Q : Flow → Shared → Prop} (F : FLaw K) (H : Here K p loose mean mg mb A (lawEnv L a ccd) h₀ L) (S : At s0 h₀ L s m μ) (Z : StM μ st ns)
    (c1 : CellIs (del μ st) (L + 1) none) (c2 : CellIs (del μ st) (L + 1 + 1) none) (c3 : CellIs (del μ st) (L + 1 + 1 + 1) none) (c4 : CellIs (del μ st) (L + 1 + 1 + 1 + 1) none)
    (hroom : (A.under (.builtin "type.__call__" ⟨[.ref 906], []⟩)).depth + 2 < recursionLimit)
    (h : ∀ s' μ' ad d, At s0 h₀ L s' m μ' → LI w ns st L μ' ad PE.empty (fun _ => []) d (fun _ => 0) none none → Q .next s') : wpAny (model P0 w) A (exec (lawS 1) (lawEnv L a ccd)) Q E s := by
  refine tupAsgP (s0 := s0) (h₀ := h₀) (L := L) H.hand (wpAny_items_cons (Call_ (nameX_K S.fr H.X (topRead_of H.T) F.nPE (callWith_K0 (H.X.keeps S.fr.keep) F.kPE (make_spec F.F F.M H S hroom fun s1 μ1 ad S1 D1 x1 => ?_)))))
  refine wpAny_items_cons (dNew S1 fun d od s2 nd S2 he => wpAny_items_nil ⟨rfl, le_line (show 2 ≤ 100 by decide), m, _, S2, fun s3 S3 => ?_⟩)
  have x2 : Ext μ1 (put μ1 d od) := Ext.new nd
  have x12 := x1.trans x2
  have y := ext_del2 (x := st) x12
  have D2 := D1.new (o := od) nd
  have Z2 := Z.mono x12
  have D2' : Dr w (del (put μ1 d od) st) ad PE.empty := D2.mono fun r l o e => (del_ne fun q => Z2.off D2 ⟨r, l, q⟩).trans e
  have dst : d ≠ st := fun q => by
    obtain ⟨os, es, _⟩ := (Z.mono x1).some
    rw [q, es] at nd; cases nd
  have nfd : ¬ Fp ad PE.empty d := D1.fresh nd
  have k1 := c1.mono y
  have k2 := c2.mono y
  have k3 := c3.mono y
  have k4 := c4.mono y
  have emb : Emb w (del (put μ1 d od) st) d PE.empty.ks (fun _ => []) (fun _ => 0) := ⟨⟨od, (del_ne dst).trans put_self, he.2 _⟩, fun v hv => nomatch hv⟩
  have e2 := k2.ne_st
  have e1 := k1.ne_st
  obtain ⟨oD, eD, hD⟩ := k1.mono del_le
  refine wpAny_assignInOrder_more (assign_Name (stCell S3 eD hD fun s4 o4 S4 h4 => ?_))
  have Z4 := Z2.putC (x := o4) (k1.mono del_le)
  have D4 : Dr w (del (put (put μ1 d od) (L + 1) o4) st) ad PE.empty := by rw [del_put_ne e1]; exact D2'.off (k1.off D2')
  have emb4 : Emb w (del (put (put μ1 d od) (L + 1) o4) st) d PE.empty.ks (fun _ => []) (fun _ => 0) := by rw [del_put_ne e1]; exact emb.putC k1
  have k14 : CellIs (del (put (put μ1 d od) (L + 1) o4) st) (L + 1) (some (.ref (ad .x))) := by rw [del_put_ne e1]; exact ⟨o4, put_self, h4⟩
  have k24 : CellIs (del (put (put μ1 d od) (L + 1) o4) st) (L + 1 + 1) none := by rw [del_put_ne e1]; exact k2.put_ne (ne12 L).symm
  have k34 : CellIs (del (put (put μ1 d od) (L + 1) o4) st) (L + 1 + 1 + 1) none := by rw [del_put_ne e1]; exact k3.put_ne (ne13 L).symm
  have k44 : CellIs (del (put (put μ1 d od) (L + 1) o4) st) (L + 1 + 1 + 1 + 1) none := by rw [del_put_ne e1]; exact k4.put_ne (ne14 L).symm
  obtain ⟨oT, eT, hT⟩ := k24.mono del_le
  refine wpAny_assignInOrder_more (assign_Name (stCell S4 eT hT fun s5 o5 S5 h5 => wpAny_assignInOrder_none ?_))
  refine h s5 _ ad d S5 ⟨Z4.putC (k24.mono del_le), ?_, ⟨rfl, rfl⟩, fun v => R3.nil, ?_, nfd, ?_, ?_, ?_, ?_⟩ <;> rw [del_put_ne e2]
  · exact D4.off (k24.off D4)
  · exact emb4.putC k24
  · exact k14.put_ne (ne12 L)
  · exact ⟨o5, put_self, h5⟩
  · exact k34.put_ne (ne23 L).symm
  · exact k44.put_ne (ne24 L).symm
end
end Mine
end
section -- LawW
open PySem PySem.W PySem.Calls PyProof.Rows PyProof.V PySem.Spec
set_option maxRecDepth 100000
set_option linter.unusedVariables false
namespace Mine
section
variable {w : World} {K : Frag} {p : Program} {loose : List Str} {mean : ExcName → Option Value} {mg mb : Str → Option Value}
variable {A A' A₀ : Around} {env env' : Env} {base h₀ : Heap} {L : Addr} {m : Str → Option Value} {μ μ' : Mu} {s0 : Anc} {s : Shared} {E : Value → Shared → Prop} {ad ad' : Adr} {G G' : PE}
  {a : Addr} {ccd : Value} {ns : List Int} {st d r l : Addr} {rows : Int → List Int} {la : Int → Addr} {va vr : Option Value} {xs : List Int}
theorem pairC {i : Int} {k : Nat} {p1 p2 pos : Pos} {ks : List (Option PySem.Expr)} {vs : List PySem.Expr} {Q : List (Value × Value) → Shared → Prop} (S : At s0 h₀ L s m μ)
    (h : ∀ t l o s', μ l = none → At s0 h₀ L s' m (put μ l o) → LO [] o → wpAny (model P0 w) A (evalPairs (pairTrees ks vs env pos)) (fun r s₃ => Q ((.int i t, .ref l) :: r) s₃) E s') :
    wpAny (model P0 w) A (evalPairs (pairTrees (some (.Constant (.int i) k p1) :: ks) (.List [] p2 :: vs) env pos)) Q E s := by
  refine pairTrees_cons_walk (cInt S fun t s1 S1 => listLit (s0 := s0) (h₀ := h₀) (L := L) (wpAny_items_nil ⟨le_line (show 0 ≤ 100 by decide), _, _, S1, fun l o s2 n S2 lo => h t l o s2 n S2 lo⟩))
theorem storeC {d : Addr} {od : Obj} {kvs : List (Int × Value)} {i : Int} {t : Tok} {v : Value} {vs : List (Value × Value)} {Q : PUnit → Shared → Prop} (S : At s0 h₀ L s m μ) (e : μ d = some od) (hd : od.IsDictOf (ik w) kvs) (hsz : kvs.length ≤ 50)
    (h : ∀ s' o', At s0 h₀ L s' m (put μ d o') → o'.IsDictOf (ik w) (stored kvs i v) → wpAny (model P0 w) A (storeAll d vs) Q E s') : wpAny (model P0 w) A (storeAll d ((.int i t, v) :: vs)) Q E s := by
  unfold storeAll
  rw [List.forIn_cons]
  refine wpAny_bind (wpAny_bind (dictSetAt S e hd (intKind_is ..) (le_line (by omega)) fun s1 o1 S1 h1 => wpAny_pure ?_))
  exact h s1 o1 S1 h1
theorem storeN {d : Addr} {Q : PUnit → Shared → Prop} (h : Q () s) : wpAny (model P0 w) A (storeAll d []) Q E s := by
  unfold storeAll
  rw [List.forIn_nil]
  exact wpAny_pure h
theorem disp4 {e : PySem.Expr} {k1 k2 k3 k4 : Nat} {p1 p2 p3 p4 q1 q2 q3 q4 pos : Pos} {Q : Value → Shared → Prop} (S : At s0 h₀ L s m μ) (hst : ∃ o, μ st = some o)
    (h : ∀ (d : Addr) (od : Obj) (la : Int → Addr) s' μ', At s0 h₀ L s' m μ' → Ext μ μ' → μ' d = some od → μ d = none → od.IsDictOf (ik w) ([3, 1, 0, 2].map fun v => (v, Value.ref (la v))) → (∀ v ∈ ([3, 1, 0, 2] : List Int), IntL (del μ' st) (la v) []) → Q (.ref d) s')
    (hE : e = .Dict [some (.Constant (.int 3) k1 p1), some (.Constant (.int 1) k2 p2), some (.Constant (.int 0) k3 p3), some (.Constant (.int 2) k4 p4)] [.List [] q1, .List [] q2, .List [] q3, .List [] q4] pos) :
    wpAny (model P0 w) A (eval e env) Q E s := by
  subst hE
  refine wpAny_Dict_any (prog := P0) (w := w) (A := A) (E := E) (s := s) (env := env) (Q := Q) (pos := pos) ?_ ?_ ?_ ?_ ?_
  · rfl
  · rfl
  · simp
  · simp
  have nD := S.sit.new_none
  have S1 : At s0 h₀ L { s with heap := s.heap.push { cls := .type "dict", data := .dict #[] } } m (put μ s.heap.objs.size { cls := .type "dict", data := .dict #[] }) := ⟨S.sit.push _, S.kp⟩
  have he : ({ cls := .type "dict", data := .dict #[] } : Obj).IsDictOf (ik w) [] := ⟨#[], 0, ⟨rfl, rfl, rfl⟩, rfl, fun _ he => by simp at he, .nil, List.nodup_nil⟩
  generalize s.heap.objs.size = d at *
  have x1 : Ext μ (put μ d { cls := .type "dict", data := .dict #[] }) := Ext.new nD
  refine pairC S1 fun t1 l1 o1 s2 n1 S2 lo1 => pairC S2 fun t2 l2 o2 s3 n2 S3 lo2 => pairC S3 fun t3 l3 o3 s4 n3 S4 lo3 => pairC S4 fun t4 l4 o4 s5 n4 S5 lo4 => pairTrees_nil_walk ?_
  have x2 := Ext.new (o := o1) n1
  have x3 := Ext.new (o := o2) n2
  have x4 := Ext.new (o := o3) n3
  have x5 := Ext.new (o := o4) n4
  have up : Ext μ (put (put (put (put (put μ d { cls := .type "dict", data := .dict #[] }) l1 o1) l2 o2) l3 o3) l4 o4) := x1.trans (x2.trans (x3.trans (x4.trans x5)))
  have ed := (x2.trans (x3.trans (x4.trans x5))) _ _ (put_self (μ := μ) (a := d) (o := { cls := .type "dict", data := .dict #[] }))
  have e1 := (x3.trans (x4.trans x5)) _ _ put_self
  have e2 := (x4.trans x5) _ _ put_self
  have e3 := x5 _ _ put_self
  have e4 := put_self (μ := put (put (put (put μ d { cls := .type "dict", data := .dict #[] }) l1 o1) l2 o2) l3 o3) (a := l4) (o := o4)
  generalize put (put (put (put (put μ d { cls := .type "dict", data := .dict #[] }) l1 o1) l2 o2) l3 o3) l4 o4 = ν at *
  have lne : ∀ {l : Addr} {o : Obj}, ν l = some o → LO [] o → l ≠ d := fun e lo q => by
    rw [q, ed] at e; cases e
    have := lo.1; simp at this
  refine storeC S5 ed he (by simp) fun s6 o6 S6 h6 => storeC S6 put_self h6 (by simp [stored]) fun s7 o7 S7 h7 => ?_
  rw [put_put] at S7
  refine storeC S7 put_self h7 (by simp [stored]) fun s8 o8 S8 h8 => ?_
  rw [put_put] at S8
  refine storeC S8 put_self h8 (by simp [stored]) fun s9 o9 S9 h9 => storeN ?_
  rw [put_put] at S9
  obtain ⟨ost, est⟩ := hst
  have lst : ∀ {l : Addr} {μ1 : Mu}, Ext μ μ1 → μ1 l = none → l ≠ st := fun x n q => by rw [q, x _ _ est] at n; cases n
  have il : ∀ {l : Addr} {o : Obj}, l ≠ st → ν l = some o → LO [] o → IntL (del (put ν d o9) st) l [] := fun ns e lo => ⟨_, [], (del_ne ns).trans ((put_ne (lne e lo)).trans e), lo, .nil⟩
  refine h d o9 (fun v => if v = 3 then l1 else if v = 1 then l2 else if v = 0 then l3 else l4) s9 _ S9 (fun b o e => (put_ne fun q => by rw [q, nD] at e; cases e).trans (up b o e)) put_self nD ?_ fun v hv => ?_
  · have : stored (stored (stored (stored ([] : List (Int × Value)) 3 (.ref l1)) 1 (.ref l2)) 0 (.ref l3)) 2 (.ref l4) = ([3, 1, 0, 2] : List Int).map fun v => (v, Value.ref (if v = 3 then l1 else if v = 1 then l2 else if v = 0 then l3 else l4)) := by simp [stored]
    rw [this] at h9; exact h9
  · have n1' := lst x1 n1
    have n2' := lst (x1.trans x2) n2
    have n3' := lst (x1.trans (x2.trans x3)) n3
    have n4' := lst (x1.trans (x2.trans (x3.trans x4))) n4
    have : v = 3 ∨ v = 1 ∨ v = 0 ∨ v = 2 := by simpa using hv
    rcases this with rfl | rfl | rfl | rfl
    · exact il n1' e1 lo1
    · exact il n2' e2 lo2
    · exact il n3' e3 lo3
    · exact il n4' e4 lo4
end
end Mine
end
section -- LawX
open PySem PySem.W PySem.Calls PyProof.Rows PyProof.V PySem.Spec
set_option maxRecDepth 100000
set_option linter.unusedVariables false

namespace Mine
theorem addVs_rows {G : PE} {rows : Int → List Int} {l : List Int} (r : Rows G rows) : Rows (G.addVs l) rows := by
  unfold PE.addVs
  induction l generalizing G with
  | nil => exact r
  | cons v l ih =>
    refine ih fun u => ?_
    obtain ⟨e1, e2, e3⟩ := addV_ord G v
    rw [e1, e2, e3]
    exact r u
theorem addVs4 : (PE.empty.addVs [3, 1, 0, 2]).ks = [3, 1, 0, 2] := by
  show ((((PE.empty.addV 3).addV 1).addV 0).addV 2).ks = [3, 1, 0, 2]
  rw [addV_ks, addV_ks, addV_ks, addV_ks]; decide
section
variable {w : World} {K : Frag} {p : Program} {loose : List Str} {mean : ExcName → Option Value} {mg mb : Str → Option Value}
variable {A A' A₀ : Around} {env env' : Env} {base h₀ : Heap} {L : Addr} {m : Str → Option Value} {μ μ' : Mu} {s0 : Anc} {s : Shared} {E : Value → Shared → Prop} {ad ad' : Adr} {G G' : PE}
  {a : Addr} {ccd : Value} {ns : List Int} {st d r l : Addr} {rows : Int → List Int} {la : Int → Addr} {va vr : Option Value} {xs : List Int}
theorem LawM.setN {ks ks' : List Int} {rows' : Int → List Int} {la' : Int → Addr} {d' : Addr} {oc : Obj} (J : LMm w ns st L μ ad G ks rows d la va vr) (hx : Ext μ μ') (n : μ d' = none) (embM : Emb w (del μ' st) d' ks' rows' la') (ho : CellO (some (.ref d')) oc) :
    LMm w ns st L (put μ' (L + 1 + 1) oc) ad G ks' rows' d' la' va vr := by
  have x2 := ext_del2 (x := st) hx
  have cT := J.cT.mono x2
  have hne := cT.ne_st
  have D' : Dr w (del μ' st) ad G := J.dr.mono fun r l o e => x2 _ _ e
  refine ⟨(J.stm.mono hx).putC (cT.mono del_le), ?_, ?_, ?_, ?_, ?_, ?_, ?_⟩
  · rw [del_put_ne hne]; exact D'.off (cT.off D')
  · rw [del_put_ne hne]; exact embM.putC cT
  · rintro ⟨rr, lv, q⟩
    obtain ⟨o, e1, _⟩ := J.dr.at_ rr lv
    rw [q] at e1
    have := del_le _ _ e1
    rw [n] at this; cases this
  · rw [del_put_ne hne]; exact (J.cD.mono x2).put_ne (ne12 L)
  · rw [del_put_ne hne]; exact ⟨oc, put_self, ho⟩
  · rw [del_put_ne hne]; exact (J.cA.mono x2).put_ne (ne23 L).symm
  · rw [del_put_ne hne]; exact (J.cR.mono x2).put_ne (ne24 L).symm
theorem law2b {e : PySem.Expr} {pp po : Pos} {ks : List Int} {k1 k2 k3 k4 : Nat} {p1 p2 p3 p4 q1 q2 q3 q4 pos : Pos} {Q : Flow → Shared → Prop} (S : At s0 h₀ L s m μ) (J : LMm w ns st L μ ad G ks rows d la va vr)
    (h : ∀ s' μ' d' la', At s0 h₀ L s' m μ' → LMm w ns st L μ' ad G [3, 1, 0, 2] (fun _ => []) d' la' va vr → Q .next s')
    (hE : e = .Dict [some (.Constant (.int 3) k1 p1), some (.Constant (.int 1) k2 p2), some (.Constant (.int 0) k3 p3), some (.Constant (.int 2) k4 p4)] [.List [] q1, .List [] q2, .List [] q3, .List [] q4] pos)
    (hs : swapsWith e (some (.Name "turns" pp)) po.line (lawEnv L a ccd) = pure false) : wpAny (model P0 w) A (exec (.Assign [.Name "turns" pp] e po) (lawEnv L a ccd)) Q E s := by
  obtain ⟨ost, est, _⟩ := J.stm.some
  refine wpAny_Assign_Name ?_ hs
  refine disp4 (st := st) S ⟨ost, est⟩ (fun d9 od9 la9 s9 μ9 S9 x9 e9 n9 hd9 hl9 => ?_) hE
  obtain ⟨oT, eT, hT⟩ := (J.cT.mono (ext_del2 x9)).mono del_le
  refine stCell S9 eT hT fun s10 o10 S10 h10 => ?_
  have d9st : d9 ≠ st := fun q => by rw [q, est] at n9; cases n9
  have J10 := J.setN x9 n9 (ks' := [3, 1, 0, 2]) (rows' := fun _ => []) (la' := la9) ⟨⟨od9, (del_ne d9st).trans e9, hd9⟩, hl9⟩ h10
  exact h s10 _ d9 la9 S10 J10
theorem law2 {Q : Flow → Shared → Prop} (F : FLaw K) (H : Here K p loose mean mg mb A (lawEnv L a ccd) h₀ L) (S : At s0 h₀ L s m μ) (I : LI w ns st L μ ad PE.empty (fun _ => []) d (fun _ => 0) va vr) (hns : ns.length ≤ 60)
    (ms : m "state" = some (.ref st)) (hroom : A.depth + 1 < recursionLimit)
    (h : ∀ s' μ' ad' G' rows' d' la', At s0 h₀ L s' m μ' → LI w ns st L μ' ad' G' rows' d' la' va vr → Q .next s') : wpAny (model P0 w) A (exec (lawS 2) (lawEnv L a ccd)) Q E s := by
  refine wpAny_If (wpAny_isTrue_Compare1 (lawNext (many := 2) F H S I.stm hns ms (by omega) (by omega) (fun S2 k => cInt S2 fun t s2 S3 => k t s2 S3) fun s1 v t o' v0 v2 S1 Z1 => cInt S1 fun t1 s2 S2 => eq_int (wpAny_truthy_bool ?_)) (by rfl))
  have I2 := I.next Z1
  by_cases hv' : ¬ v = 1
  · rw [if_neg (by simpa using hv')]
    exact wpAny_execs_nil (h s2 _ ad _ _ d _ S2 I2)
  have hv : v = 1 := Decidable.not_not.mp hv'
  rw [if_pos (by simpa using hv)]
  obtain ⟨oD, eD, hD⟩ := I2.cD.mono del_le
  refine wpAny_execs_cons (wpAny_Expr_any (methCA S2 H F.F.C I2.D eD hD F.A.mAddn (by decide) (wpAny_items_cons (listLit (s0 := s0) (h₀ := h₀) (L := L) (wpAny_items_cons (cInt S2 fun t3 s3 S3 => wpAny_items_cons (cInt S3 fun t4 s4 S4 => wpAny_items_cons (cInt S4 fun t5 s5 S5 => wpAny_items_cons (cInt S5 fun t6 s6 S6 => wpAny_items_nil ⟨le_line (show 4 ≤ 100 by decide), _, _, S6, fun l o s7 n7 S7 lo7 => wpAny_items_nil ⟨H.X.keeps S7.fr.keep, ?_⟩⟩)))))))))
  have I7 := I2.mono (Ext.new (o := o) n7)
  refine addn_spec (ns := [3, 1, 0, 2]) F.A F.F.E F.F.C H S7 I7.D I7.same put_self lo7 (.cons _ _ (.cons _ _ (.cons _ _ (.cons _ _ .nil)))) (by decide) (by decide) (by intro v _ q; cases q) (by omega) fun s8 μ8 ad8 S8 D8 T8 => ?_
  have J8 := (I7.go T8 D8).toM
  refine wpAny_execs_cons ?_
  generalize hE : Expr.Dict _ _ _ = e
  refine law2b (e := e) S8 J8 (fun s9 μ9 d9 la9 S9 J9 => wpAny_execs_nil ?_) hE.symm (by subst hE; rfl)
  exact h s9 _ ad8 _ _ d9 la9 S9 (J9.toI addVs4 (addVs_same I7.same) (addVs_rows I7.rws))
end
end Mine
end
section -- LawY
open PySem PySem.W PySem.Calls PyProof.Rows PyProof.V PySem.Spec
set_option maxRecDepth 100000
set_option linter.unusedVariables false
namespace Mine
section
variable {w : World} {K : Frag} {p : Program} {loose : List Str} {mean : ExcName → Option Value} {mg mb : Str → Option Value}
variable {A A' A₀ : Around} {env env' : Env} {base h₀ : Heap} {L : Addr} {m : Str → Option Value} {μ μ' : Mu} {s0 : Anc} {s : Shared} {E : Value → Shared → Prop} {ad ad' : Adr} {G G' : PE}
  {a : Addr} {ccd : Value} {ns : List Int} {st d r l : Addr} {rows : Int → List Int} {la : Int → Addr} {va vr : Option Value} {xs : List Int}
theorem lawAll {sc : Addr} {vs : List Value} {Q : Flow → Shared → Prop} (F : FLaw K) (H : Here K p loose mean mg mb A (lawEnv L a ccd) h₀ L) (B : Below A₀ base [] h₀) (hA : A.frames = some [lawEnv L a ccd]) (XB : K.In base) (TB : Top p loose mean mg mb base)
    (S : At s0 h₀ L s m μ) (hJ : s0.J = AllBare) (hm : m "script" = some (.ref sc)) (hsc : h₀.IsList sc vs.toArray) (hi : IntsAre vs xs) (h63 : xs.length ≤ 63)
    (c1 : CellIs μ (L + 1) none) (c2 : CellIs μ (L + 1 + 1) none) (c3 : CellIs μ (L + 1 + 1 + 1) none) (c4 : CellIs μ (L + 1 + 1 + 1 + 1) none)
    (hroom : A.depth + 5 < recursionLimit) (hroom' : (A.under (.builtin "type.__call__" ⟨[.ref 906], []⟩)).depth + 2 < recursionLimit) (hu : A.units + 80 < cLine) (hE : PassesOwn (model P0 w) A (lawEnv L a ccd) E)
    (h : ∀ s' m' μ', At s0 h₀ L s' m' μ' → Q (.ret (.bool true)) s') : wpAny (model P0 w) A (execs (sBody (topS 21)) (lawEnv L a ccd)) Q E s := by
  refine wpAny_execs_cons (law0 H S hm hsc hi h63 fun s1 μ1 st S1 x1 n1 Z1 => ?_)
  have up : ∀ {c : Addr}, CellIs μ c none → CellIs (del μ1 st) c none := fun ⟨o, e, r⟩ => ⟨o, (del_ne fun q => by rw [q, n1] at e; cases e).trans (x1 _ _ e), r⟩
  have hns : (xs.take 60).length ≤ 60 := List.length_take_le _ _
  refine wpAny_execs_cons (law1 F H S1 Z1 (up c1) (up c2) (up c3) (up c4) hroom' fun s2 μ2 ad d S2 I2 => ?_)
  refine wpAny_execs_cons (law2 F H S2 I2 hns (if_pos rfl) (by omega) fun s3 μ3 ad3 G3 rows3 d3 la3 S3 I3 => ?_)
  refine wpAny_execs_cons (law3 F H B hA XB TB S3 hJ I3 hns (if_pos rfl) hroom hu hE fun s4 m4 μ4 S4 => ?_)
  exact wpAny_execs_cons (wpAny_Return_some (wpAny_Constant_bool (h s4 m4 μ4 S4)))
end
end Mine
end
section -- LawZ
open PySem PySem.W PySem.Calls PyProof.Rows PyProof.V PySem.Spec
set_option maxRecDepth 100000
set_option linter.unusedVariables false
namespace Mine
theorem lawEnd {w : World} {K : Frag} (F : FLaw K) {p : Program} {loose : List Str} {mean mean' : ExcName → Option Value} {mg mb : Str → Option Value} {s₁ : Shared} {fa : Addr} {ccd : Value} {sc : Addr} {vs : List Value} {xs : List Int} {h₁ : Heap} {tk : Nat} {bm : Str → Option Value} {o1 o2 o3 o4 : Obj}
    {c : ClaimW} {cl : Str → Option Addr} {args : List WData}
    (KX : K.In s₁.heap) (T : Top p loose mean mg mb s₁.heap) (hg : s₁.gens = #[]) (hL : s₁.heap.IsList sc vs.toArray) (hI : IntsAre vs xs) (h63 : xs.length ≤ 63)
    (Fr1 : Fr s₁.heap s₁.heap.objs.size h₁ bm) (hbm : bm "script" = some (.ref sc)) (N : News s₁.heap s₁.heap.objs.size h₁ [(s₁.heap.objs.size + 1 + 1 + 1 + 1, o4), (s₁.heap.objs.size + 1 + 1 + 1, o3), (s₁.heap.objs.size + 1 + 1, o2), (s₁.heap.objs.size + 1, o1)])
    (d4 : o4.data = .cell none) (d3 : o3.data = .cell none) (d2 : o2.data = .cell none) (d1 : o1.data = .cell none)
    (hr : ∀ cls, c.raises args cls = false) (hp : c.post args (.bool true) args = true) :
    wpAny (model P0 w) (callerA.deeper (lawEnv s₁.heap.objs.size fa ccd)) (execs (sBody (topS 21)) (lawEnv s₁.heap.objs.size fa ccd))
      (fun f s' => GoodWG c cl mean' args s₁ (.ok (.ret (match f with | .ret v => v | _ => .none))) s')
      (fun e s' => wpAny (model P0 w) (callerA.deeper (lawEnv s₁.heap.objs.size fa ccd)) (leaving (lawEnv s₁.heap.objs.size fa ccd) e) (fun _ s'' => GoodWG c cl mean' args s₁ (.error e) s'') (fun e' s'' => GoodWG c cl mean' args s₁ (.error e') s'') s')
      { heap := h₁, gens := s₁.gens, drawn := s₁.drawn, toks := tk, os := s₁.os } := by
  have hA : (callerA.deeper (lawEnv s₁.heap.objs.size fa ccd)).frames = some [lawEnv s₁.heap.objs.size fa ccd] := Around.frames_deeper rfl
  have big : sysModules < s₁.heap.objs.size := modules_low T.nolimit
  have H : Here K p loose mean mg mb (callerA.deeper (lawEnv s₁.heap.objs.size fa ccd)) (lawEnv s₁.heap.objs.size fa ccd) s₁.heap s₁.heap.objs.size := ⟨KX, T, ⟨callerA, s₁.heap, [], below_caller s₁.heap, hA⟩, rfl, rfl, rfl⟩
  have gb : AllBare s₁.gens := fun y hy => by rw [hg] at hy; simp at hy
  generalize hLL : s₁.heap.objs.size = L at *
  have S : At ⟨s₁.os, s₁.drawn, AllBare⟩ s₁.heap L { heap := h₁, gens := s₁.gens, drawn := s₁.drawn, toks := tk, os := s₁.os } bm (put (put (put (put (fun _ => none) (L + 1 + 1 + 1 + 1) o4) (L + 1 + 1 + 1) o3) (L + 1 + 1) o2) (L + 1) o1) := by
    have mem : ∀ b o, put (put (put (put (fun _ => none) (L + 1 + 1 + 1 + 1) o4) (L + 1 + 1 + 1) o3) (L + 1 + 1) o2) (L + 1) o1 b = some o → (b, o) ∈ [(L + 1 + 1 + 1 + 1, o4), (L + 1 + 1 + 1, o3), (L + 1 + 1, o2), (L + 1, o1)] := fun b o e => by
      by_cases q1 : b = L + 1
      · subst q1; rw [put_self] at e; cases e; simp
      · rw [put_ne q1] at e
        by_cases q2 : b = L + 1 + 1
        · subst q2; rw [put_self] at e; cases e; simp
        · rw [put_ne q2] at e
          by_cases q3 : b = L + 1 + 1 + 1
          · subst q3; rw [put_self] at e; cases e; simp
          · rw [put_ne q3] at e
            by_cases q4 : b = L + 1 + 1 + 1 + 1
            · subst q4; rw [put_self] at e; cases e; simp
            · rw [put_ne q4] at e; cases e
    refine ⟨⟨Fr1, fun b o e => N (b, o) (mem b o e), fun b o e => ?_, big⟩, rfl, rfl, gb⟩
    have hm := mem b o e
    refine beq_eq_false_iff_ne.mpr fun q => ?_
    subst q
    simp only [List.mem_cons, Prod.mk.injEq, List.not_mem_nil, or_false] at hm
    have l1 : L < L + 1 := Nat.lt_succ_self _
    have l2 : L < L + 1 + 1 := Nat.lt_trans l1 (Nat.lt_succ_self _)
    have l3 : L < L + 1 + 1 + 1 := Nat.lt_trans l2 (Nat.lt_succ_self _)
    have l4 : L < L + 1 + 1 + 1 + 1 := Nat.lt_trans l3 (Nat.lt_succ_self _)
    rcases hm with h | h | h | h <;> (have := h.1; rw [this] at big)
    · exact absurd (Nat.lt_trans l4 big) (Nat.lt_irrefl _)
    · exact absurd (Nat.lt_trans l3 big) (Nat.lt_irrefl _)
    · exact absurd (Nat.lt_trans l2 big) (Nat.lt_irrefl _)
    · exact absurd (Nat.lt_trans l1 big) (Nat.lt_irrefl _)
  refine lawAll F H (below_caller s₁.heap) hA KX T S rfl hbm hL hI h63 ⟨o1, put_self, d1⟩ ⟨o2, (put_ne (ne12 L).symm).trans put_self, d2⟩ ⟨o3, (put_ne (ne13 L).symm).trans ((put_ne (ne23 L).symm).trans put_self), d3⟩ ⟨o4, (put_ne (ne14 L).symm).trans ((put_ne (ne24 L).symm).trans ((put_ne (ne43 L)).trans put_self)), d4⟩ (by show 1 + claimMargin + 1 + 5 < recursionLimit; decide) (by show 1 + claimMargin + 1 + 1 + 2 < recursionLimit; decide) (by show 4 + 3 + 80 < cLine; decide) (by passes_own) fun s' m' μ' S' => ?_
  exact ⟨.inl ⟨.bool true, .bool true, [], rfl, hr, ReadsW.bool true, hp, fun _ => ⟨List.nodup_nil, fun _ hm => (nomatch hm)⟩⟩, .of_keep fun b o e => S'.fr.keep b o e, S'.kp.1, S'.kp.2.2⟩
end Mine
end
open PySem PySem.W PyProof.Rows PySem.Calls
namespace Mine
theorem more_of {α β : Type} {o : Option (α × (Addr → β))} {a : α} {b : Addr → β} (h1 : o.isSome = true) (h2 : (o.get h1).1 = a) (h3 : ∀ D, (o.get h1).2 D = b D) : ∃ g₁, o = some (a, g₁) ∧ ∀ D, g₁ D = b D := by
  cases o with
  | none => cases h1
  | some p => exact ⟨p.2, by rw [← h2]; rfl, h3⟩
def hd.tw13668907381374884189 : Nat := 0
def hd.tw10823805588411094043 : Nat := 0
def hd.tw1409499432954038522 : Nat := 0
def hd.tw10727248033764811480 : Nat := 0
def hd.tw170577836214467028 : Nat := 0
def hd.tw9832717264467108858 : Nat := 0
def hd.tw4267557013636171763 : Nat := 0
def hd.tw6726342588429418155 : Nat := 0
def hd.tw8572141881429484623 : Nat := 0
def hd.tw5858630264745516266 : Nat := 0
def hd.tw5778430778243502421 : Nat := 0
def hd.tw464777395874653626 : Nat := 0
def hd.tw1854534034470087089 : Nat := 0
def hd.tw8311094193870103915 : Nat := 0
def hd.tw11912750834651455084 : Nat := 0
def hd.tw11649762642437741248 : Nat := 0
def hd.tw9502423252354950708 : Nat := 0
def hd.tw17979112520590173179 : Nat := 0
def hd.tw5387394851084113601 : Nat := 0
def hd.tw9502734599358990315 : Nat := 0
def hd.tw6569457421057648476 : Nat := 0
def hd.tw15620691519335411326 : Nat := 0
def hd.tw344798931065935411 : Nat := 0
def hd.tw15526587654878503902 : Nat := 0
def hd.tw13844380318115746083 : Nat := 0
def hd.tw6357836590164462398 : Nat := 0
def hd.tw7269190750281295013 : Nat := 0
def hd.tw8117722118643159343 : Nat := 0
def hd.tw10751454150562587465 : Nat := 0
def hd.tw3350844169311001129 : Nat := 0
set_option Elab.async true
set_option maxRecDepth 100000 in
set_option maxHeartbeats 8000000 in
theorem hd : PySem.Challenge.rw_fc0136_01.Holds := by
  w_on; o_law; k_head; (case hw => w_witness2)
  lge_go0
  refine lawEnd (mean' := ExcName.means _) ?myLaw (by assumption) (by assumption) (by assumption) (by assumption) (by assumption) ?_ (by assumption) ?_ (by assumption) ?_ ?_ ?_ ?_ ?_ ?_
  case myLaw =>
    refine ⟨?myFN, ⟨?myFE, ?myFC, ?myFS, ?myFH, ?myFX, ?myFP⟩, ?myFD, ⟨?myFM1, ?myFM2, by k_is, by k_is, by k_is, by k_is, by k_is, by k_is, by k_is, by k_is, by k_is, by k_is, by k_is, ⟨_, _, _, _, _, _, _, _, by k_is, by k_is⟩, ⟨by k_is, by k_is, by k_is⟩, ⟨_, _, _, _, _, _, _, _, by k_is, by k_is⟩, ⟨by k_is, by k_is, by k_is⟩, ⟨_, _, _, _, _, _, _, _, by k_is, by k_is⟩, ⟨by k_is, by k_is, by k_is⟩⟩, ?myFA, ?myFH2, ?myFRf, by k_is, by k_is, by k_is, by k_is, by k_is, by k_is, by k_is, by k_is, by k_is, by k_is, by k_is, by k_is, ⟨by k_is, by k_is, by k_is⟩⟩
    case myFN => exact ⟨⟨_, _, _, _, _, _, _, _, by k_is, by k_is⟩, by k_is, by k_is⟩
    case myFE => exact ⟨⟨_, _, _, _, _, _, _, _, by k_is, by k_is⟩, ⟨by k_is, by k_is, by k_is⟩, ⟨_, _, _, _, _, _, _, _, by k_is, by k_is⟩, ⟨by k_is, by k_is, by k_is⟩, ⟨_, _, _, _, _, _, _, _, by k_is, by k_is⟩, ⟨by k_is, by k_is, by k_is⟩, ⟨_, _, _, _, _, _, _, _, by k_is, by k_is⟩⟩
    case myFC => exact ⟨by k_is, by k_is, by k_is, by k_is, by k_is, by k_is, ⟨by k_is, by k_is, by k_is⟩⟩
    case myFS => exact ⟨⟨_, _, _, by k_is⟩, ⟨_, by k_is⟩, by k_is, by k_is, by k_is, ⟨by ks_is, by k_is, by k_is⟩, ⟨by ks_is, by k_is, by k_is⟩⟩
    case myFH => exact ⟨⟨_, _, _, _, _, _, _, _, _, _, _, _, _, _, by k_is, by k_is, by k_is, by rfl, by first | rfl | decide +kernel, fun S x a b c d => ⟨by kernel_rfl, by kernel_rfl, by kernel_rfl, by kernel_rfl⟩⟩, by k_is⟩
    case myFX => exact ⟨by k_is, by k_exc, by kts_isx⟩
    case myFP => exact ⟨⟨_, _, _, _, _, _, _, _, by k_is, by k_is⟩, ⟨_, _, _, _, _, _, _, _, by k_is, by k_is⟩, ⟨_, _, _, _, _, _, _, _, by k_is, by k_is⟩, ⟨_, _, _, _, _, _, _, _, by k_is, by k_is⟩, ⟨by k_is, by k_is, by k_is⟩, ⟨by k_is, by k_is, by k_is⟩, ⟨by k_is, by k_is, by k_is⟩⟩
    case myFD => exact ⟨⟨_, _, _, _, _, _, _, _, by k_is, by k_is⟩, by k_is, by k_is, by k_is, ⟨_, _, _, _, _, _, _, _, by k_is, by k_is⟩, ⟨by k_is, by k_is, by k_is⟩, ⟨⟨_, _, _, _, _, _, _, _, by k_is, by k_is⟩, ⟨by k_is, by k_is, by k_is⟩, by k_is⟩⟩
    case myFM1 => exact ⟨_, _, _, _, _, _, _, _, _, by k_is, by k_is, fun P x => ⟨by kernel_rfl, more_of (by kernel_rfl) (by kernel_rfl) (fun D => by kernel_rfl)⟩, _, _, _, _, _, _, by k_is, by rfl, by first | rfl | decide +kernel⟩
    case myFM2 => exact ⟨_, _, _, _, _, _, _, _, _, by k_is, by k_is, fun P x => ⟨by kernel_rfl, more_of (by kernel_rfl) (by kernel_rfl) (fun D => by kernel_rfl)⟩, _, _, _, _, _, _, by k_is, by rfl, by first | rfl | decide +kernel⟩
    case myFA => exact ⟨⟨_, _, _, _, _, _, _, _, by k_is, by k_is⟩, ⟨by k_is, by k_is, by k_is⟩⟩
    case myFH2 => exact ⟨⟨_, _, _, _, _, _, _, _, by k_is, by k_is⟩, ⟨by k_is, by k_is, by k_is⟩⟩
    case myFRf => exact ⟨_, _, _, _, _, _, _, _, by k_is, by k_is⟩
  · omega
  · rfl
  · assumption
  · assumption
  · assumption
  · assumption
  · intro _; rfl
  · first | rfl | wrow_post
end Mine
theorem PySem.Challenge.cw_fc0136_01_holds : PySem.Challenge.rw_fc0136_01.Holds :=
  Mine.hd
