import PyProof.Rows.All
import Wide.All
import OpenK.AllK
import Wide.FinOn
import KE.BytesMake
import KE.KxPercentT
import KE.KxDecode
import PySem.Challenge.RW_re0086_01
set_option Elab.async false
set_option linter.unusedVariables false
set_option linter.unusedSimpArgs false
section
set_option linter.unusedVariables false
namespace Mine
open PySem PyProof.Rows

abbrev bmObj (a : Addr) : Obj := { cls := .type "builtin_function_or_method", dict := none, data := .fields #[.builtin "list.append", .ref a], slots := #[] }

theorem bm_lookup : typeLookup (.type "list") "append" = pure (some (.builtin "list.append")) := by rw [typeLookup_type, builtinLookup_eq_fast]; kernel_rfl
theorem bm_get : specialOf (.builtin "list.append") "__get__" = pure (some (.builtin "method_descriptor.__get__")) := by
  unfold specialOf; rw [show typeOf (.builtin "list.append") = pure (.type "method_descriptor") from type_list_append]
  show typeLookup (.type "method_descriptor") "__get__" = _
  rw [typeLookup_type, builtinLookup_eq_fast]; kernel_rfl
theorem bm_set : specialOf (.builtin "list.append") "__set__" = pure none := by
  unfold specialOf; rw [show typeOf (.builtin "list.append") = pure (.type "method_descriptor") from type_list_append]
  show typeLookup (.type "method_descriptor") "__set__" = _
  rw [typeLookup_type, builtinLookup_eq_fast]; kernel_rfl
theorem bm_del : specialOf (.builtin "list.append") "__delete__" = pure none := by
  unfold specialOf; rw [show typeOf (.builtin "list.append") = pure (.type "method_descriptor") from type_list_append]
  show typeLookup (.type "method_descriptor") "__delete__" = _
  rw [typeLookup_type, builtinLookup_eq_fast]; kernel_rfl
theorem bm_slot_get : Slot "method_descriptor" "__get__" "method_descriptor.__get__" :=
  .of (owner := "method_descriptor") (n := "__get__") (by rw [typeLookup_type, builtinLookup_eq_fast]; kernel_rfl) (by decide +kernel) (by decide +kernel) (by decide +kernel)
    (by first | exact .inl (by decide +kernel) | exact .inr (by decide +kernel)) (by rw [isSubtype_type]; kernel_rfl)
theorem bm_entry_get : entryFor table "method_descriptor.__get__" = some Builtin.«method_descriptor.__get__» := entryFor_of_fast (by kernel_rfl)
theorem bm_args_get (a b c : Value) : argsOk "method_descriptor.__get__" ⟨[a, b, c], []⟩ := by unfold argsOk; kernel_rfl

theorem bm_inst {s : Shared} {a : Addr} {vs : Array Value} {n : Nat} (e : s.heap.get? a = some { cls := .type "list", dict := none, data := .seq vs n, slots := #[] }) : s.TypeIs (.ref a) "list" := ⟨_, e, rfl⟩
open Builtin in
theorem meets_bm {a : Addr} {vs : Array Value} {n : Nat} : Meets («method_descriptor.__get__» ⟨[.builtin "list.append", .ref a, .type "list"], []⟩)
    (fun _ R s => s.heap.get? a = some { cls := .type "list", dict := none, data := .seq vs n, slots := #[] } ∧ ∀ k, R (.ok (.ret (.ref s.heap.objs.size))) { s with heap := s.heap.push (bmObj a), toks := k }) := by
  refine .of_wp fun prog w A R s hs => ?_
  obtain ⟨hx, hq⟩ := hs
  have hT := bm_inst hx
  unfold «method_descriptor.__get__»
  refine wpAny_bind (wpAny_of_eq (a := (.builtin "list.append", some (.ref a), some (.type "list"))) (by kernel_rfl) ?_)
  show wpAny _ _ (if Manifest.toldItsClass.contains "list.append" then _ else _) _ _ _
  rw [if_neg (by decide +kernel)]
  refine wpAny_bind (f := fun _ => newFields "builtin_function_or_method" [.builtin "list.append", .ref a] >>= fun v => ret v) (wpAny_bind (wpAny_of_eq (a := (PySem.Str.ofString "append", Value.type "list")) (by kernel_rfl) (wpAny_bind (wpAny_isInstance (b := true) hT (by rw [isSubtype_type]; kernel_rfl) ?_))))
  refine wpAny_pure ?_
  show wpAny _ _ (newFields "builtin_function_or_method" [.builtin "list.append", .ref a] >>= fun v => ret v) _ _ s
  refine wpAny_bind ?_
  unfold newFields
  refine wpAny_newObj_type (wpAny_pure ?_)
  exact ⟨_, rfl, hq _⟩

theorem bm_entry_ga : entryFor table "list.__getattribute__" = some Builtin.«object.__getattribute__» := am_entry_list_getattribute
set_option maxHeartbeats 2000000 in
theorem meets_ga {a : Addr} {vs : Array Value} {n : Nat} {u : Tok} : Meets (Builtin.«object.__getattribute__» ⟨[.ref a, .str (PySem.Str.ofString "append") u], []⟩)
    (fun _ R s => s.heap.get? a = some { cls := .type "list", dict := none, data := .seq vs n, slots := #[] } ∧ ∀ k, R (.ok (.ret (.ref s.heap.objs.size))) { s with heap := s.heap.push (bmObj a), toks := k }) := by
  refine .of_wp fun prog w A R s hs => ?_
  obtain ⟨hp, g, d, tk, os⟩ := s
  obtain ⟨hx, hq⟩ := hs
  have hT : (⟨hp, g, d, tk, os⟩ : Shared).TypeIs (.ref a) "list" := bm_inst hx
  have f1 := bm_lookup
  have f2 := bm_get
  have f3 := bm_set
  have f4 := bm_del
  unfold Builtin.«object.__getattribute__»
  repeat (any_goals (first | assumption | (refine call_meets bm_slot_get (show Shared.TypeIs _ (.builtin "list.append") "method_descriptor" from type_list_append) bm_entry_get (bm_args_get _ _ _) meets_bm ⟨hx, fun k => ?_⟩) | wp_step))
  exact wpAny_pure ⟨_, rfl, hq k⟩

section
variable {prog : Program} {w : World} {A : Around} {E : Value → Shared → Prop} {s : Shared}
theorem getAttr_append {a : Addr} {vs : Array Value} {n : Nat} {Q : Value → Shared → Prop} (hx : s.heap.get? a = some { cls := .type "list", dict := none, data := .seq vs n, slots := #[] })
    (h : ∀ k, Q (.ref s.heap.objs.size) { s with heap := s.heap.push (bmObj a), toks := k }) : wpAny (model prog w) A (getAttr (.ref a) (PySem.Str.ofString "append") true) Q E s := by
  obtain ⟨hp, g, d, tk, os⟩ := s
  have hT : ∀ tk', (⟨hp, g, d, tk', os⟩ : Shared).TypeIs (.ref a) "list" := fun _ => bm_inst hx
  have f3 := F.slot_list_getattribute.lookup
  have f4 := F.slot_list_getattribute.bind (.ref a)
  have f5 := am_list_getattr_none
  unfold getAttr getAttrBy
  repeat (any_goals (first | assumption | exact hT _ | ((with_reducible show wpAny _ _ (call (Value.builtin "list.__getattribute__") _ _) _ _ _); refine call_meets F.slot_list_getattribute (hT _) am_entry_list_getattribute (F.args_list_getattribute_2 _ _) meets_ga ⟨hx, fun k => ?_⟩) | wp_step))
  exact wpAny_pure (h k)
set_option maxHeartbeats 2000000 in
theorem call_bm {a b : Addr} {vs : Array Value} {n : Nat} {y : Value} {Q : Value → Shared → Prop} (hb : s.heap.get? b = some (bmObj a)) (hx : s.heap.get? a = some { cls := .type "list", dict := none, data := .seq vs n, slots := #[] })
    (hQ : ∀ h', h'.PlainList a (vs.push y) → Heap.SameBut a s.heap h' → Q .none { s with heap := h' }) (hsz : vs.size ≤ sizeLine) : wpAny (model prog w) A (call (.ref b) [y]) Q E s := by
  refine wpAny_call (codeAny_of_tree ?_)
  show wpAny _ A.in1 (callAny (.ref b) ⟨[y], []⟩) _ _ _
  unfold callAny
  refine wpAny_bind (wpAny_load hb ?_)
  show wpAny _ _ (checkBoundCall "list.append" ⟨[.ref a, y], []⟩ >>= fun _ => again (.builtin "list.append" ⟨[.ref a, y], []⟩)) _ _ _
  have sg : Manifest.signature? "list.append" = some ⟨.oneArg, "list.append", "append", .self, [⟨"object", .posOnly, true⟩]⟩ := by kernel_rfl
  have kd : builtinKind "list.append" = some .method := by decide +kernel
  have va : Manifest.varargsMethods.contains "list.append" = false := by decide +kernel
  have hT : s.TypeIs (.ref a) "list" := bm_inst hx
  have sub : isSubtype (.type "list") (.type "module") = pure false := by rw [isSubtype_type]; kernel_rfl
  refine wpAny_bind ?_
  unfold checkBoundCall
  rw [sg, kd]
  repeat (any_goals (first | assumption | wp_step))
  refine ⟨plainId_quiet slot_list_append.plain _, codeAny_builtin entry_list_append ?_⟩
  show wpAny _ _ (updateSeq a (·.push y) >>= fun _ => ret .none) _ _ s
  refine wpAny_bind (wpAny_updateSeq hx rfl (wpAny_pure ?_))
  refine hQ _ ⟨n + 1, ?_⟩ (Heap.SameBut.update ..)
  rw [Heap.get?_update_self _ hx (by rw [Obj.mapSeq_push_plain]; rfl), Obj.mapSeq_push_plain]
end
end Mine
end
section
set_option linter.unusedVariables false
namespace Mine
open PySem PyProof.Rows

/-! the rules' ground: data, what bears them, the judgements -/

inductive D where
  | none
  | bool (b : Bool)
  | int (i : Int)
  | str (s : List Nat)
  | bytes (b : List UInt8)
  | list (ds : List D)
  | tup (ds : List D)
  | rng (n : Nat)
  | raw (v : Value)

abbrev S (l : List Nat) : Str := ⟨l.toArray⟩
abbrev Kp (h h' : Heap) : Prop := ∀ b o, h.get? b = some o → h'.get? b = some o
abbrev listObj (vs : List Value) (n : Nat) : Obj := { cls := .type "list", dict := Option.none, data := .seq vs.toArray n, slots := #[] }
abbrev tupObj (vs : List Value) (n : Nat) : Obj := { cls := .type "tuple", dict := Option.none, data := .seq vs.toArray n, slots := #[] }
abbrev rngObj (t₁ t₂ t₃ : Tok) (n : Nat) : Obj := { cls := .type "range", dict := Option.none, data := .fields #[.int 0 t₁, .int (n : Int) t₂, .int 1 t₃], slots := #[] }

mutual
inductive Rep (h : Heap) : Value → D → Prop where
  | none : Rep h .none .none
  | bool {b : Bool} : Rep h (.bool b) (.bool b)
  | int {i : Int} {t : Tok} : Rep h (.int i t) (.int i)
  | str {s : List Nat} {t : Tok} : Rep h (.str (S s) t) (.str s)
  | bytes {b : List UInt8} {t : Tok} : Rep h (.bytes b.toArray t) (.bytes b)
  | list {a : Addr} {vs : List Value} {n : Nat} {ds : List D} : h.get? a = some (listObj vs n) → RepAll h vs ds → Rep h (.ref a) (.list ds)
  | tup {a : Addr} {vs : List Value} {n : Nat} {ds : List D} : h.get? a = some (tupObj vs n) → RepAll h vs ds → Rep h (.ref a) (.tup ds)
  | rng {a : Addr} {t₁ t₂ t₃ : Tok} {n : Nat} : h.get? a = some (rngObj t₁ t₂ t₃ n) → Rep h (.ref a) (.rng n)
  | raw {v : Value} : Rep h v (.raw v)
inductive RepAll (h : Heap) : List Value → List D → Prop where
  | nil : RepAll h [] []
  | cons {v : Value} {d : D} {vs : List Value} {ds : List D} : Rep h v d → RepAll h vs ds → RepAll h (v :: vs) (d :: ds)
end

/-- an object that a datum may stand upon -/
def Obj.seqLike (o : PySem.Obj) : Bool := match o.data with
  | .seq _ _ => true
  | .fields _ => o.cls == .type "range"
  | _ => false
abbrev Ks (h h' : Heap) : Prop := ∀ b o, h.get? b = some o → Obj.seqLike o = true → h'.get? b = some o

mutual
theorem Rep.ks {h h' : Heap} (k : Ks h h') {v : Value} {d : D} : Rep h v d → Rep h' v d
  | .none => .none
  | .bool => .bool
  | .int => .int
  | .str => .str
  | .bytes => .bytes
  | .list e r => .list (k _ _ e rfl) (RepAll.ks k r)
  | .tup e r => .tup (k _ _ e rfl) (RepAll.ks k r)
  | .rng e => .rng (k _ _ e rfl)
  | .raw => .raw
theorem RepAll.ks {h h' : Heap} (k : Ks h h') {vs : List Value} {ds : List D} : RepAll h vs ds → RepAll h' vs ds
  | .nil => .nil
  | .cons a b => .cons (Rep.ks k a) (RepAll.ks k b)
end
theorem Kp.ks {h h' : Heap} (k : Kp h h') : Ks h h' := fun b o e _ => k b o e
theorem Rep.kp {h h' : Heap} (k : Kp h h') {v : Value} {d : D} (r : Rep h v d) : Rep h' v d := r.ks k.ks
theorem RepAll.kp {h h' : Heap} (k : Kp h h') {vs : List Value} {ds : List D} (r : RepAll h vs ds) : RepAll h' vs ds := r.ks k.ks
theorem RepAll.length {h : Heap} : ∀ {vs : List Value} {ds : List D}, RepAll h vs ds → vs.length = ds.length
  | _, _, .nil => rfl
  | _, _, .cons _ r => by rw [List.length_cons, List.length_cons, RepAll.length r]
theorem RepAll.append {h : Heap} : ∀ {vs ws : List Value} {ds es : List D}, RepAll h vs ds → RepAll h ws es → RepAll h (vs ++ ws) (ds ++ es)
  | _, _, _, _, .nil, r => r
  | _, _, _, _, .cons a b, r => .cons a (RepAll.append b r)
theorem RepAll.get {h : Heap} : ∀ {vs : List Value} {ds : List D} {i : Nat} {d : D}, RepAll h vs ds → ds[i]? = some d → ∃ v, vs[i]? = some v ∧ Rep h v d
  | _, _, i, _, .nil, e => by simp at e
  | _, _, 0, _, .cons a b, e => by simp at e; exact ⟨_, rfl, e ▸ a⟩
  | _, _, i + 1, d, .cons a b, e => by
    rw [List.getElem?_cons_succ] at e
    obtain ⟨v, hv, r⟩ := RepAll.get b e
    exact ⟨v, by rw [List.getElem?_cons_succ]; exact hv, r⟩

/-- what a name of a block stands for -/
inductive Loc (env : Env) (h : Heap) (x : Str) (v : Value) : Prop where
  | loc (m : Str → Option Value) : env.kindOf x = some .local → h.Ns env.locals m → m x = some v → Loc env h x v
  | cell (c : Addr) : env.kindOf x = some .cell → env.cells.lookup x = some c → h.IsCell c (some v) → Loc env h x v
  | free (c : Addr) : env.kindOf x = some .free → (x == ("__classdict__" : Str)) = false → env.cells.lookup x = some c → h.IsCell c (some v) → Loc env h x v

theorem Loc.kp {env : Env} {h h' : Heap} {x : Str} {v : Value} (k : Kp h h') : Loc env h x v → Loc env h' x v
  | .loc m a b c => .loc m a (b.keeps k) c
  | .cell c a b d => .cell c a b (d.keeps k)
  | .free c a n b d => .free c a n b (d.keeps k)

/-- the text's ground: what stands at the top -/
structure Gx where
  prog : Program
  w : World
  W : Heap → Prop
  glob : Str → D → Prop
  keeps : ∀ {h h' : Heap}, Kp h h' → W h → W h'
  look : ∀ {h : Heap}, W h → ∃ mg mb, h.Ns mainGlobals mg ∧ h.Ns builtinsNs mb ∧ ∀ x d, glob x d → ∃ v, Rep h v d ∧ (mg x = some v ∨ (mg x = none ∧ mb x = some v))
  lim : ∀ {h : Heap}, W h → h.NoLimit

abbrev Rho := Str → Option D
def set (ρ : Rho) (x : Str) (d : D) : Rho := fun y => if y = x then some d else ρ y

structure Cx (G : Gx) (sc : Scope) (env : Env) (ρ : Rho) (s : Shared) : Prop where
  scope : env.scope = sc
  glo : env.globals = mainGlobals
  bui : env.builtins = builtinsNs
  fn : sc.kind = .function
  w : G.W s.heap
  tk : 0 < s.toks
  vars : ∀ x d, ρ x = some d → ∃ v, Rep s.heap v d ∧ Loc env s.heap x v
def AOk (k : Nat) (A : Around) : Prop := A.handled = none ∧ A.depth + k < recursionLimit ∧ A.units + 10 * k < cLine
abbrev M (G : Gx) : Model := model G.prog G.w

/-- all that stood stands as it stood; the counter of tokens has not gone back -/
def Kk (s s' : Shared) : Prop := Keeps s s' ∧ s.toks ≤ s'.toks
theorem keeps_refl (s : Shared) : Kk s s := ⟨⟨s.heap, s.toks, rfl, fun _ _ e => e⟩, Nat.le_refl _⟩
theorem keeps_kp {s s' : Shared} (k : Kk s s') : Kp s.heap s'.heap := by obtain ⟨⟨h, t, rfl, e⟩, _⟩ := k; exact e
theorem keeps_trans {s s' s'' : Shared} (k : Kk s s') (k' : Kk s' s'') : Kk s s'' := by
  obtain ⟨⟨h, t, rfl, e⟩, l⟩ := k; obtain ⟨⟨h', t', rfl, e'⟩, l'⟩ := k'
  exact ⟨⟨h', t', rfl, fun b o x => e' b o (e b o x)⟩, Nat.le_trans l l'⟩
theorem ke_tok (s : Shared) (t : Nat) : Keeps s { s with toks := t } := ⟨s.heap, t, rfl, fun _ _ e => e⟩
theorem ke_push (s : Shared) (o : Obj) (t : Nat) : Keeps s { s with heap := s.heap.push o, toks := t } := ⟨_, t, rfl, fun _ _ e => Heap.get?_push_of_some _ e⟩
theorem up {α : Type} {Mo : Model} {A : Around} {t : Sem α} {s : Shared} {Q : α → Shared → Prop} (h : wpAny Mo A t (fun a s' => Keeps s s' ∧ Q a s') (fun _ _ => False) s) : wpAny Mo A t (fun a s' => Kk s s' ∧ Q a s') (fun _ _ => False) s :=
  wpAny_mono (wpAny_toks_of (Nat.le_refl s.toks) h) (fun _ _ q => ⟨⟨q.2.1, q.1⟩, q.2.2⟩) fun _ _ e => e.2

theorem Cx.kp {G : Gx} {sc : Scope} {env : Env} {ρ : Rho} {s s' : Shared} (c : Cx G sc env ρ s) (k : Kk s s') : Cx G sc env ρ s' :=
  ⟨c.scope, c.glo, c.bui, c.fn, G.keeps (keeps_kp k) c.w, Nat.lt_of_lt_of_le c.tk k.2, fun x d e => let ⟨v, r, l⟩ := c.vars x d e; ⟨v, r.kp (keeps_kp k), l.kp (keeps_kp k)⟩⟩

/-- what a step's end must say -/
abbrev Po (s : Shared) (K : D → Prop) (v : Value) (s' : Shared) : Prop := Kk s s' ∧ ∃ d, K d ∧ Rep s'.heap v d
abbrev No : Value → Shared → Prop := fun _ _ => False

def Ev (G : Gx) (k : Nat) (sc : Scope) (ρ : Rho) (e : Expr) (K : D → Prop) : Prop :=
  ∀ A env s, AOk k A → Cx G sc env ρ s → wpAny (M G) A (eval e env) (Po s K) No s
def Tr (G : Gx) (k : Nat) (sc : Scope) (ρ : Rho) (e : Expr) (K : Bool → Prop) : Prop :=
  ∀ A env s, AOk k A → Cx G sc env ρ s → wpAny (M G) A (isTrue e env (eval e env)) (fun b s' => Kk s s' ∧ K b) No s
/-- a tree upon values alone -/
def Tv (G : Gx) (k : Nat) (ds : List D) (t : List Value → Sem Value) (K : D → Prop) : Prop :=
  ∀ A s vs, AOk k A → G.W s.heap → RepAll s.heap vs ds → wpAny (M G) A (t vs) (Po s K) No s
def Bo (G : Gx) (k : Nat) (op : Operator) (x y : D) (K : D → Prop) : Prop :=
  ∀ A s v u, AOk k A → Rep s.heap v x → Rep s.heap u y → wpAny (M G) A (binaryOp op v u) (Po s K) No s
def Co (G : Gx) (k : Nat) (op : CmpOp) (x y : D) (K : Bool → Prop) : Prop :=
  ∀ A s v u, AOk k A → Rep s.heap v x → Rep s.heap u y → wpAny (M G) A (compareOp op v u) (fun r s' => Kk s s' ∧ ∃ b, r = .bool b ∧ K b) No s
def Th (G : Gx) (k : Nat) (x : D) (K : Bool → Prop) : Prop :=
  ∀ A s v, AOk k A → Rep s.heap v x → wpAny (M G) A (truthy v) (fun b s' => Kk s s' ∧ K b) No s

section
variable {G : Gx} {k : Nat} {sc : Scope} {ρ : Rho}

theorem wp_kp {α : Type} {Mo : Model} {A : Around} {t : Sem α} {s s₁ : Shared} {Q : α → Shared → Prop} (k : Kk s s₁) (h : wpAny Mo A t (fun a s' => Kk s₁ s' ∧ Q a s') No s₁) : wpAny Mo A t (fun a s' => Kk s s' ∧ Q a s') No s₁ :=
  wpAny_mono h (fun _ _ q => ⟨keeps_trans k q.1, q.2⟩) fun _ _ e => e

theorem Ev.mono {e : Expr} {K K' : D → Prop} (h : Ev G k sc ρ e K) (hk : ∀ d, K d → K' d) : Ev G k sc ρ e K' := fun A env s a c =>
  wpAny_mono (h A env s a c) (fun _ _ q => ⟨q.1, let ⟨d, x, r⟩ := q.2; ⟨d, hk d x, r⟩⟩) fun _ _ e => e

theorem Ev.int {i : Int} {n : Nat} {pos : Pos} {K : D → Prop} (h : K (.int i)) : Ev G k sc ρ (.Constant (.int i) n pos) K := fun _ _ s _ _ =>
  up (wpAny_Constant_int ⟨ke_tok s _, _, h, .int⟩)
theorem Ev.str {x : Str} {n : Nat} {pos : Pos} {K : D → Prop} (h : K (.str x.cps.toList)) : Ev G k sc ρ (.Constant (.str x) n pos) K := fun _ _ s _ _ =>
  up (Calls.Constant_str ⟨ke_tok s _, _, h, by
    have : x = S x.cps.toList := by obtain ⟨a⟩ := x; rfl
    rw [this]; exact .str⟩)
theorem Ev.bool {b : Bool} {n : Nat} {pos : Pos} {K : D → Prop} (h : K (.bool b)) : Ev G k sc ρ (.Constant (.bool b) n pos) K := fun _ _ s _ _ =>
  Constant_bool ⟨keeps_refl s, _, h, .bool⟩

theorem Ev.var {x : Str} {pos : Pos} {d : D} {K : D → Prop} (hx : ρ x = some d) (h : K d) (hd : (x == ("__debug__" : Str)) = false := by decide) : Ev G k sc ρ (.Name x pos) K := fun A env s _ c => by
  obtain ⟨v, r, l⟩ := c.vars x d hx
  have hk : env.scope.kind = .function := by rw [c.scope]; exact c.fn
  refine wpAny_Name ?_ hd
  cases l with
  | loc m a b e => exact wpAny_loadName_local hk a b e ⟨keeps_refl s, d, h, r⟩
  | cell c a b e => exact wpAny_loadName_cell hk a b e ⟨keeps_refl s, d, h, r⟩
  | free c a n b e => exact wpAny_loadName_free hk a b e ⟨keeps_refl s, d, h, r⟩ n

theorem Ev.glob {x : Str} {pos : Pos} {d : D} {K : D → Prop} (hx : G.glob x d) (hs : sc.names.lookup x = some .globalImplicit) (h : K d) (hd : (x == ("__debug__" : Str)) = false := by decide) : Ev G k sc ρ (.Name x pos) K := fun A env s _ c => by
  have hk : env.scope.kind = .function := by rw [c.scope]; exact c.fn
  have hn : env.kindOf x = some .globalImplicit := by show env.scope.names.lookup x = _; rw [c.scope]; exact hs
  obtain ⟨mg, mb, g1, g2, g3⟩ := G.look c.w
  obtain ⟨v, r, e | ⟨e1, e2⟩⟩ := g3 x d hx
  · exact Calls.Name_function_global hk hn (Calls.loadGlobal_global (by rw [c.glo]; exact g1) e ⟨keeps_refl s, d, h, r⟩) hd
  · exact Calls.Name_function_global hk hn (Calls.loadGlobal_builtin (by rw [c.glo]; exact g1) e1 (by rw [c.bui]; exact g2) e2 ⟨keeps_refl s, d, h, r⟩) hd

theorem Ev.bin {l r : Expr} {op : Operator} {pos : Pos} {K : D → Prop} (h : Ev G k sc ρ l fun x => Ev G k sc ρ r fun y => Bo G k op x y K) : Ev G k sc ρ (.BinOp l op r pos) K := fun A env s a c => by
  refine wpAny_BinOp (wpAny_mono (h A env s a c) (fun v s₁ q => ?_) fun _ _ e => e)
  obtain ⟨k1, x, hx, rx⟩ := q
  refine wpAny_mono (hx A env s₁ a (c.kp k1)) (fun u s₂ q => ?_) fun _ _ e => e
  obtain ⟨k2, y, hy, ry⟩ := q
  exact wp_kp (keeps_trans k1 k2) (hy A s₂ v u a (rx.kp (keeps_kp k2)) ry)

theorem Ev.cmp {l r : Expr} {op : CmpOp} {pos : Pos} {K : D → Prop} (h : Ev G k sc ρ l fun x => Ev G k sc ρ r fun y => Co G k op x y fun b => K (.bool b)) (hm : behindInMarks op r = false := by with_unfolding_all rfl) :
    Ev G k sc ρ (.Compare l [op] [r] pos) K := fun A env s a c => by
  refine wpAny_Compare1 (wpAny_mono (h A env s a c) (fun v s₁ q => ?_) fun _ _ e => e) hm
  obtain ⟨k1, x, hx, rx⟩ := q
  refine wpAny_mono (hx A env s₁ a (c.kp k1)) (fun u s₂ q => ?_) fun _ _ e => e
  obtain ⟨k2, y, hy, ry⟩ := q
  refine wpAny_mono (hy A s₂ v u a (rx.kp (keeps_kp k2)) ry) (fun w s₃ q => ?_) fun _ _ e => e
  obtain ⟨k3, b, rfl, hb⟩ := q
  exact ⟨keeps_trans (keeps_trans k1 k2) k3, _, hb, .bool⟩

theorem Tr.cmp {l r : Expr} {op : CmpOp} {pos : Pos} {K : Bool → Prop} (h : Ev G k sc ρ l fun x => Ev G k sc ρ r fun y => Co G k op x y K) (hm : behindInMarks op r = false := by with_unfolding_all rfl) :
    Tr G k sc ρ (.Compare l [op] [r] pos) K := fun A env s a c => by
  refine wpAny_isTrue_Compare1 (wpAny_mono (h A env s a c) (fun v s₁ q => ?_) fun _ _ e => e) hm
  obtain ⟨k1, x, hx, rx⟩ := q
  refine wpAny_mono (hx A env s₁ a (c.kp k1)) (fun u s₂ q => ?_) fun _ _ e => e
  obtain ⟨k2, y, hy, ry⟩ := q
  refine wpAny_mono (hy A s₂ v u a (rx.kp (keeps_kp k2)) ry) (fun w s₃ q => ?_) fun _ _ e => e
  obtain ⟨k3, b, rfl, hb⟩ := q
  exact wpAny_truthy_bool ⟨keeps_trans (keeps_trans k1 k2) k3, hb⟩

theorem Tr.not {x : Expr} {pos : Pos} {K : Bool → Prop} (h : Tr G k sc ρ x fun b => K (!b)) : Tr G k sc ρ (.UnaryOp .Not x pos) K := fun A env s a c =>
  isTrue_not (wpAny_mono (h A env s a c) (fun _ _ q => q) fun _ _ e => e)

theorem Tr.and2 {x y : Expr} {pos : Pos} {K : Bool → Prop} (h : Tr G k sc ρ x fun b => if b then Tr G k sc ρ y K else K false) : Tr G k sc ρ (.BoolOp .And [x, y] pos) K := fun A env s a c => by
  refine isTrue_and (wpAny_mono (h A env s a c) (fun b s₁ q => ?_) fun _ _ e => e)
  obtain ⟨k1, q⟩ := q
  cases b with
  | false => exact ⟨k1, q⟩
  | true =>
    simp only [if_true] at q ⊢
    refine isTrue_and (wpAny_mono (q A env s₁ a (c.kp k1)) (fun b s₂ q => ?_) fun _ _ e => e)
    obtain ⟨k2, q⟩ := q
    cases b with
    | false => exact ⟨keeps_trans k1 k2, q⟩
    | true => simp only [if_true]; exact isTrue_and_nil ⟨keeps_trans k1 k2, q⟩

theorem Tr.plain {e : Expr} {K : Bool → Prop} (h : Ev G k sc ρ e fun x => Th G k x K)
    (he : ∀ env whole, isTrue e env whole = (do let v ← whole; standAt e.pos; holding [v] (truthy v)) := by intro _ _; kernel_rfl) : Tr G k sc ρ e K := fun A env s a c => by
  refine isTrue_plain (wpAny_mono (h A env s a c) (fun v s₁ q => ?_) fun _ _ e => e) (he env _)
  obtain ⟨k1, x, hx, rx⟩ := q
  exact wp_kp k1 (hx A s₁ v a rx)

theorem Ev.ite {t b o : Expr} {pos : Pos} {K : D → Prop} (h : Tr G k sc ρ t fun c => if c then Ev G k sc ρ b K else Ev G k sc ρ o K) : Ev G k sc ρ (.IfExp t b o pos) K := fun A env s a c => by
  refine wpAny_IfExp (wpAny_mono (h A env s a c) (fun b s₁ q => ?_) fun _ _ e => e)
  obtain ⟨k1, q⟩ := q
  cases b with
  | false => simp only [Bool.false_eq_true, if_false] at q ⊢; exact wp_kp k1 (q A env s₁ a (c.kp k1))
  | true => simp only [if_true] at q ⊢; exact wp_kp k1 (q A env s₁ a (c.kp k1))

theorem Ev.neg {i : Int} {n : Nat} {p pos : Pos} {K : D → Prop} (h : K (.int (-i))) : Ev G k sc ρ (.UnaryOp .USub (.Constant (.int i) n p) pos) K := fun A env s a c =>
  up (wpAny_UnaryOp (wpAny_Constant_int (P.neg_int ⟨⟨s.heap, _, rfl, fun _ _ e => e⟩, _, h, .int⟩)))

/-! the operators -/
theorem Bo.add_int {a b : Int} {K : D → Prop} (h : K (.int (a + b))) : Bo G k .Add (.int a) (.int b) K := fun A s v u _ rv ru => by
  cases rv; cases ru; exact up (P.add_int ⟨ke_tok s _, _, h, .int⟩)
theorem Bo.sub_int {a b : Int} {K : D → Prop} (h : K (.int (a - b))) : Bo G k .Sub (.int a) (.int b) K := fun A s v u _ rv ru => by
  cases rv; cases ru; exact up (P.sub_int ⟨ke_tok s _, _, h, .int⟩)
theorem Bo.mul_int {a b : Int} {K : D → Prop} (hm : IntMulOk a b) (h : K (.int (a * b))) : Bo G k .Mult (.int a) (.int b) K := fun A s v u _ rv ru => by
  cases rv; cases ru; exact up (P.mul_int ⟨ke_tok s _, _, h, .int⟩ hm)
theorem Bo.mod_int {a b : Int} {K : D → Prop} (hb : b ≠ 0) (h : K (.int (a.fmod b))) : Bo G k .Mod (.int a) (.int b) K := fun A s v u _ rv ru => by
  cases rv; cases ru; exact up (PyProof.Rows.mod_int hb ⟨ke_tok s _, _, h, .int⟩)
theorem Bo.fdiv_int {a b : Int} {K : D → Prop} (hb : b ≠ 0) (hp : Builtin.divisionGoesByPylong a b = false) (h : K (.int (a.fdiv b))) : Bo G k .FloorDiv (.int a) (.int b) K := fun A s v u _ rv ru => by
  cases rv; cases ru; exact up (PyProof.Rows.floordiv_int hb ⟨ke_tok s _, _, h, .int⟩ (.inl hp))
theorem S_append (a b : List Nat) : S a ++ S b = S (a ++ b) := by
  show Str.mk (a.toArray ++ b.toArray) = Str.mk (a ++ b).toArray
  simp
theorem Bo.add_str {a b : List Nat} {K : D → Prop} (hsz : a.length + b.length ≤ sizeLine) (h : K (.str (a ++ b))) : Bo G k .Add (.str a) (.str b) K := fun A s v u _ rv ru => by
  cases rv; cases ru
  refine up (SB.add (fun t' n => ⟨ke_tok s _, _, h, ?_⟩) (by simpa [Str.length] using hsz))
  rw [S_append]; exact .str
theorem Bo.add_list {a b : List D} {K : D → Prop} (hsz : a.length + b.length ≤ sizeLine) (h : K (.list (a ++ b))) : Bo G k .Add (.list a) (.list b) K := fun A s v u _ rv ru => by
  cases rv with
  | list e1 r1 => cases ru with
    | list e2 r2 =>
      have l1 := r1.length
      have l2 := r2.length
      refine up (P.add_list e1 e2 ⟨⟨_, s.toks, rfl, fun _ _ e => Heap.get?_push_of_some _ e⟩, _, h, ?_⟩ (by simp only [List.size_toArray]; omega))
      refine .list (n := 0) ?_ ((r1.append r2).kp fun _ _ e => Heap.get?_push_of_some _ e)
      have e : ∀ xs ys : List Value, listObj (xs ++ ys) 0 = { cls := .type "list", dict := Option.none, data := .seq (xs.toArray ++ ys.toArray) 0, slots := #[] } := fun xs ys => by simp [listObj]
      rw [e]
      exact IsL.new s.heap _

theorem Co.eq_str {a b : List Nat} {K : Bool → Prop} (h : K (a == b)) : Co G k .Eq (.str a) (.str b) K := fun A s v u _ rv ru => by
  cases rv; cases ru; exact P.eq_str ⟨keeps_refl s, _, rfl, h⟩
theorem Co.ne_str {a b : List Nat} {K : Bool → Prop} (h : K (a != b)) : Co G k .NotEq (.str a) (.str b) K := fun A s v u _ rv ru => by
  cases rv; cases ru; exact P.ne_str ⟨keeps_refl s, _, rfl, h⟩
theorem Co.ne_bool {a b : Bool} {K : Bool → Prop} (h : K (a != b)) : Co G k .NotEq (.bool a) (.bool b) K := fun A s v u _ rv ru => by
  cases rv; cases ru; exact PyProof.Rows.ne_bool ⟨keeps_refl s, _, rfl, h⟩
theorem Co.lt_int {a b : Int} {K : Bool → Prop} (h : K (decide (a < b))) : Co G k .Lt (.int a) (.int b) K := fun A s v u _ rv ru => by
  cases rv; cases ru; exact P.lt_int ⟨keeps_refl s, _, rfl, h⟩
theorem Co.le_int {a b : Int} {K : Bool → Prop} (h : K (decide (a ≤ b))) : Co G k .LtE (.int a) (.int b) K := fun A s v u _ rv ru => by
  cases rv; cases ru; exact P.le_int ⟨keeps_refl s, _, rfl, h⟩
theorem Co.gt_int {a b : Int} {K : Bool → Prop} (h : K (decide (a > b))) : Co G k .Gt (.int a) (.int b) K := fun A s v u _ rv ru => by
  cases rv; cases ru; exact P.gt_int ⟨keeps_refl s, _, rfl, h⟩
theorem Co.ge_int {a b : Int} {K : Bool → Prop} (h : K (decide (a ≥ b))) : Co G k .GtE (.int a) (.int b) K := fun A s v u _ rv ru => by
  cases rv; cases ru; exact P.ge_int ⟨keeps_refl s, _, rfl, h⟩
theorem Co.in_str {a b : List Nat} {K : Bool → Prop} (h : K (Txt.contains (S b) (S a))) : Co G k .In (.str a) (.str b) K := fun A s v u _ rv ru => by
  cases rv; cases ru; exact SB.contains ⟨keeps_refl s, _, rfl, h⟩
theorem Co.notin_str {a b : List Nat} {K : Bool → Prop} (h : K (!Txt.contains (S b) (S a))) : Co G k .NotIn (.str a) (.str b) K := fun A s v u _ rv ru => by
  cases rv; cases ru; exact SB.notContains ⟨keeps_refl s, _, rfl, h⟩

theorem Th.bool {b : Bool} {K : Bool → Prop} (h : K b) : Th G k (.bool b) K := fun A s v _ r => by
  cases r; exact wpAny_truthy_bool ⟨keeps_refl s, h⟩
theorem Th.str {a : List Nat} {K : Bool → Prop} (hf : a.length ≤ sizeLine) (h : K (!a.isEmpty)) : Th G k (.str a) K := fun A s v _ r => by
  cases r
  have e : (((S a).length : Int) != 0) = !a.isEmpty := by
    cases a with
    | nil => rfl
    | cons x l => simp [Str.length]; omega
  refine up (P.truthy_str (by simp only [Str.length, List.size_toArray]; have := sizeLine_eq; omega) ?_)
  rw [e]; exact ⟨ke_tok s _, h⟩
theorem Th.bytes {a : List UInt8} {K : Bool → Prop} (hf : a.length ≤ sizeLine) (h : K (!a.isEmpty)) : Th G k (.bytes a) K := fun A s v _ r => by
  cases r
  have e : ((a.toArray.size : Int) != 0) = !a.isEmpty := by
    cases a with
    | nil => rfl
    | cons x l => simp; omega
  refine up (PySem.W.truthy_bytes (by have := sizeLine_eq; simp only [List.size_toArray]; omega) ?_)
  rw [e]; exact ⟨ke_tok s _, h⟩
end

end Mine
end
section
set_option linter.unusedVariables false
namespace Mine
open PySem PyProof.Rows

/-! calls, displays, items -/

def EvL (G : Gx) (k : Nat) (sc : Scope) (ρ : Rho) (es : List Expr) (K : List D → Prop) : Prop :=
  (∀ env, (starEach es env).all (fun x => !x.1) = true) ∧
  ∀ A env s pos, AOk k A → Cx G sc env ρ s → wpAny (M G) A (spliced (backTo pos (starEach es env))) (fun vs s' => Kk s s' ∧ ∃ ds, K ds ∧ RepAll s'.heap vs ds) No s
/-- a call of a value upon data -/
def Ca (G : Gx) (k : Nat) (f : Value) (ds : List D) (K : D → Prop) : Prop :=
  ∀ A s vs, AOk k A → G.W s.heap → 0 < s.toks → RepAll s.heap vs ds → wpAny (M G) A (call f vs) (Po s K) No s

theorem get_size (h : Heap) : h.get? h.objs.size = none := by
  cases e : h.get? h.objs.size with
  | none => rfl
  | some o => exact absurd (Heap.lt_size e) (Nat.lt_irrefl _)
/-- a value that was not there before -/
abbrev Fresh (s : Shared) (v : Value) : Prop := ∀ a, v = .ref a → s.heap.get? a = none
abbrev PoF (s : Shared) (K : D → Prop) (v : Value) (s' : Shared) : Prop := Kk s s' ∧ (∃ d, K d ∧ Rep s'.heap v d) ∧ Fresh s v
theorem fresh_size {s : Shared} : Fresh s (.ref s.heap.objs.size) := fun a e => by cases e; exact get_size _
theorem Fresh.back {s s₁ : Shared} {v : Value} (k : Kk s s₁) (f : Fresh s₁ v) : Fresh s v := fun a e => by
  have := f a e
  cases h : s.heap.get? a with
  | none => rfl
  | some o => rw [keeps_kp k _ _ h] at this; cases this
def CaF (G : Gx) (k : Nat) (f : Value) (ds : List D) (K : D → Prop) : Prop :=
  ∀ A s vs, AOk k A → G.W s.heap → 0 < s.toks → RepAll s.heap vs ds → wpAny (M G) A (call f vs) (PoF s K) No s
def EvF (G : Gx) (k : Nat) (sc : Scope) (ρ : Rho) (e : Expr) (K : D → Prop) : Prop :=
  ∀ A env s, AOk k A → Cx G sc env ρ s → wpAny (M G) A (eval e env) (PoF s K) No s

section
variable {G : Gx} {k : Nat} {sc : Scope} {ρ : Rho}
theorem CaF.toCa {f : Value} {ds : List D} {K : D → Prop} (h : CaF G k f ds K) : Ca G k f ds K := fun A s vs a w t r => wpAny_mono (h A s vs a w t r) (fun _ _ q => ⟨q.1, q.2.1⟩) fun _ _ e => e
theorem EvF.toEv {e : Expr} {K : D → Prop} (h : EvF G k sc ρ e K) : Ev G k sc ρ e K := fun A env s a c => wpAny_mono (h A env s a c) (fun _ _ q => ⟨q.1, q.2.1⟩) fun _ _ e => e
theorem wp_kpF {Mo : Model} {A : Around} {t : Sem Value} {s s₁ : Shared} {K : D → Prop} (k : Kk s s₁) (h : wpAny Mo A t (PoF s₁ K) No s₁) : wpAny Mo A t (PoF s K) No s₁ :=
  wpAny_mono h (fun _ _ q => ⟨keeps_trans k q.1, q.2.1, q.2.2.back k⟩) fun _ _ e => e

theorem EvL.nil {K : List D → Prop} (h : K []) : EvL G k sc ρ [] K := ⟨fun _ => rfl, fun A env s pos _ _ => Calls.spliced_nil ⟨keeps_refl s, _, h, .nil⟩⟩
theorem EvL.cons {e : Expr} {es : List Expr} {K : List D → Prop} (hp : ∀ env, (starEach es env).all (fun x => !x.1) = true) (h : Ev G k sc ρ e fun d => EvL G k sc ρ es fun ds => K (d :: ds))
    (he : ∀ env, starEach (e :: es) env = (false, eval e env) :: starEach es env := by intro _; kernel_rfl) : EvL G k sc ρ (e :: es) K := by
  refine ⟨fun env => by rw [he]; simpa using hp env, fun A env s pos a c => ?_⟩
  rw [he]
  show wpAny _ _ (spliced ((false, eval e env) :: backTo pos (starEach es env))) _ _ _
  refine Calls.spliced_cons (wpAny_mono (h A env s a c) (fun v s₁ q => ?_) fun _ _ e => e)
  obtain ⟨k1, d, hd, r⟩ := q
  refine wpAny_mono (hd.2 A env s₁ pos a (c.kp k1)) (fun vs s₂ q => ?_) fun _ _ e => e
  obtain ⟨k2, ds, hds, rs⟩ := q
  exact ⟨keeps_trans k1 k2, _, hds, .cons (r.kp (keeps_kp k2)) rs⟩
theorem EvL.one {e : Expr} {K : List D → Prop} (h : Ev G k sc ρ e fun d => K [d]) (he : ∀ env, starEach [e] env = (false, eval e env) :: starEach [] env := by intro _; kernel_rfl) : EvL G k sc ρ [e] K :=
  EvL.cons (fun _ => rfl) (h.mono fun d hd => EvL.nil hd) he
theorem EvL.two {e f : Expr} {K : List D → Prop} (h : Ev G k sc ρ e fun d => Ev G k sc ρ f fun d' => K [d, d']) (he : ∀ env, starEach [e, f] env = (false, eval e env) :: starEach [f] env := by intro _; kernel_rfl)
    (he' : ∀ env, starEach [f] env = (false, eval f env) :: starEach [] env := by intro _; kernel_rfl) : EvL G k sc ρ [e, f] K :=
  EvL.cons (fun env => by rw [he']; rfl) (h.mono fun d hd => EvL.one hd he') he
theorem EvL.three {e f g : Expr} {K : List D → Prop} (h : Ev G k sc ρ e fun d => Ev G k sc ρ f fun d' => Ev G k sc ρ g fun d'' => K [d, d', d'']) (he : ∀ env, starEach [e, f, g] env = (false, eval e env) :: starEach [f, g] env := by intro _; kernel_rfl)
    (he' : ∀ env, starEach [f, g] env = (false, eval f env) :: starEach [g] env := by intro _; kernel_rfl) (he'' : ∀ env, starEach [g] env = (false, eval g env) :: starEach [] env := by intro _; kernel_rfl) : EvL G k sc ρ [e, f, g] K :=
  EvL.cons (fun env => by rw [he', he'']; rfl) (h.mono fun d hd => EvL.two hd he' he'') he

theorem back_any (pos : Pos) : ∀ l : List (Bool × Sem Value), l.all (fun x => !x.1) = true → (backTo pos l).any (·.1) = false ∧ (backTo pos l).all (fun x => !x.1) = true
  | [], _ => ⟨rfl, rfl⟩
  | (b, t) :: r, h => by
    simp only [List.all_cons, Bool.and_eq_true] at h
    have hb : b = false := by simpa using h.1
    subst hb
    have := back_any pos r h.2
    exact ⟨by simpa [backTo] using this.1, by simpa [backTo] using this.2⟩

/-- evaluated arguments -/
theorem args_wp {es : List Expr} {f : Value} {A : Around} {env : Env} {s : Shared} {pos : Pos} {K : List D → Prop} {Q : Args → Shared → Prop} (h : EvL G k sc ρ es K) (a : AOk k A) (c : Cx G sc env ρ s) (hne : starEach es env ≠ [])
    (hQ : ∀ vs s' ds, Kk s s' → K ds → RepAll s'.heap vs ds → Q ⟨vs, []⟩ s') : wpAny (M G) A (evalArgs f true (backTo pos (starEach es env)) []) Q No s := by
  have hp := h.1 env
  have hw := h.2 A env s pos a c
  cases he : starEach es env with
  | nil => exact absurd he hne
  | cons x r =>
    rw [he] at hw hp
    obtain ⟨b, t⟩ := x
    have hb : b = false := by simp only [List.all_cons, Bool.and_eq_true] at hp; simpa using hp.1
    subst hb
    refine Calls.evalArgs_plain (wpAny_mono hw (fun vs s' q => ?_) fun _ _ e => e)
    obtain ⟨k1, ds, hds, rs⟩ := q
    exact hQ vs s' ds k1 hds rs

theorem eval_CallName (x : Str) (np : Pos) (args : List Expr) (pos : Pos) (env : Env) : eval (.Call (.Name x np) args [] pos) env = (do callWith pos (← eval (.Name x np) env) [] (backTo pos (starEach args env)) (backToKw pos (keywordEach [] env))) := rfl

/-- a def of the text is called -/
theorem Ev.calld {x : Str} {np pos : Pos} {args : List Expr} {a : Addr} {K : D → Prop} (hx : G.glob x (.raw (.ref a))) (hs : sc.names.lookup x = some .globalImplicit) (hf : ∀ h, G.W h → ∃ o fd, h.get? a = some o ∧ o.data = .func fd)
    (h : EvL G k sc ρ args fun ds => Ca G k (.ref a) ds K) (hd : (x == ("__debug__" : Str)) = false := by decide) (hne : ∀ env, starEach args env ≠ [] := by with_unfolding_all (intro _ h; cases h)) : Ev G k sc ρ (.Call (.Name x np) args [] pos) K := fun A env s ao c => by
  rw [eval_CallName]
  refine wpAny_bind (wpAny_mono (Ev.glob (K := fun d => d = .raw (.ref a)) hx hs rfl hd A env s ao c) (fun f s₁ q => ?_) fun _ _ e => e)
  obtain ⟨k1, d, rfl, r⟩ := q
  cases r
  obtain ⟨o, fd, ho, hfd⟩ := hf s₁.heap (c.kp k1).w
  refine Calls.callWith_function (o := o) (fd := fd) (args_wp h ao (c.kp k1) (hne env) fun vs s₂ ds k2 hds rs => ⟨⟨keeps_kp k2 _ _ ho, hfd⟩, ?_⟩)
  exact wp_kp (keeps_trans k1 k2) (hds A s₂ vs ao (c.kp (keeps_trans k1 k2)).w (c.kp (keeps_trans k1 k2)).tk rs)

theorem Ev.callb {x : Str} {np pos : Pos} {args : List Expr} {id : String} {K : D → Prop} (hx : G.glob x (.raw (.builtin id))) (hs : sc.names.lookup x = some .globalImplicit)
    (h : EvL G k sc ρ args fun ds => Ca G k (.builtin id) ds K) (hd : (x == ("__debug__" : Str)) = false := by decide) (hne : ∀ env, starEach args env ≠ [] := by with_unfolding_all (intro _ h; cases h)) : Ev G k sc ρ (.Call (.Name x np) args [] pos) K := fun A env s ao c => by
  rw [eval_CallName]
  refine wpAny_bind (wpAny_mono (Ev.glob (K := fun d => d = .raw (.builtin id)) hx hs rfl hd A env s ao c) (fun f s₁ q => ?_) fun _ _ e => e)
  obtain ⟨k1, d, rfl, r⟩ := q
  cases r
  refine Calls.callWith_builtin (back_any pos _ (h.1 env)).1 (args_wp h ao (c.kp k1) (hne env) fun vs s₂ ds k2 hds rs => ?_)
  exact wp_kp (keeps_trans k1 k2) (hds A s₂ vs ao (c.kp (keeps_trans k1 k2)).w (c.kp (keeps_trans k1 k2)).tk rs)

theorem Ev.callt {x : Str} {np pos : Pos} {args : List Expr} {T : String} {K : D → Prop} (hx : G.glob x (.raw (.type T))) (hs : sc.names.lookup x = some .globalImplicit)
    (h : EvL G k sc ρ args fun ds => Ca G k (.type T) ds K) (hd : (x == ("__debug__" : Str)) = false := by decide) (hne : ∀ env, starEach args env ≠ [] := by with_unfolding_all (intro _ h; cases h)) : Ev G k sc ρ (.Call (.Name x np) args [] pos) K := fun A env s ao c => by
  rw [eval_CallName]
  refine wpAny_bind (wpAny_mono (Ev.glob (K := fun d => d = .raw (.type T)) hx hs rfl hd A env s ao c) (fun f s₁ q => ?_) fun _ _ e => e)
  obtain ⟨k1, d, rfl, r⟩ := q
  cases r
  refine PyProof.Rows.callWith_type (back_any pos _ (h.1 env)).1 (args_wp h ao (c.kp k1) (hne env) fun vs s₂ ds k2 hds rs => ?_)
  exact wp_kp (keeps_trans k1 k2) (hds A s₂ vs ao (c.kp (keeps_trans k1 k2)).w (c.kp (keeps_trans k1 k2)).tk rs)

/-- a method of a text -/
theorem Ev.meths {o : Expr} {name : Str} {apos pos : Pos} {args : List Expr} {id : String} {K : D → Prop} (slot : Slot "str" name id) (ty : typeOf (.builtin id) = pure (.type "method_descriptor"))
    (h : Ev G k sc ρ o fun x => ∃ t, x = .str t ∧ EvL G k sc ρ args fun ds => Ca G k (.builtin id) (.str t :: ds) K)
    (hbase : ∀ env, attributeBase o name env (eval o env) = eval o env := by intro _; kernel_rfl) (hline : (apos.endLine == pos.line) = true := by kernel_rfl) (hlen : args.length < 29 := by decide) (hne : ∀ env, starEach args env ≠ [] := by with_unfolding_all (intro _ h; cases h))
    (hst : ∀ env, (starEach args env).all (fun x => !x.1) = true := by intro _; kernel_rfl) :
    Ev G k sc ρ (.Call (.Attribute o name apos) args [] pos) K := fun A env s ao c => by
  refine wpAny_Call_method_lateS (hbase env) ?_ hline (wpAny_mono (h A env s ao c) (fun ov s₁ q => ?_) fun _ _ e => e)
  · rw [(back_any pos _ (hst env)).2]
    show (true && true && decide (args.length + 0 + 0 < 30)) = true
    simp; omega
  obtain ⟨k1, d, ⟨t, rfl, he⟩, r⟩ := q
  cases r
  refine ⟨"str", id, F.plainAttrs_str, slot, ty, typeIs_str _ _ _, (fun _ e => nomatch e), ?_⟩
  refine Calls.callWith_builtin (back_any pos _ (hst env)).1 (args_wp he ao (c.kp k1) (hne env) fun vs s₂ ds k2 hds rs => ?_)
  exact wp_kp (keeps_trans k1 k2) (hds A s₂ _ ao (c.kp (keeps_trans k1 k2)).w (c.kp (keeps_trans k1 k2)).tk (.cons .str rs))
theorem Ev.meths0 {o : Expr} {name : Str} {apos pos : Pos} {id : String} {K : D → Prop} (slot : Slot "str" name id) (ty : typeOf (.builtin id) = pure (.type "method_descriptor"))
    (h : Ev G k sc ρ o fun x => ∃ t, x = .str t ∧ Ca G k (.builtin id) [.str t] K)
    (hbase : ∀ env, attributeBase o name env (eval o env) = eval o env := by intro _; kernel_rfl) (hline : (apos.endLine == pos.line) = true := by kernel_rfl) :
    Ev G k sc ρ (.Call (.Attribute o name apos) [] [] pos) K := fun A env s ao c => by
  refine wpAny_Call_method_lateS (hbase env) rfl hline (wpAny_mono (h A env s ao c) (fun ov s₁ q => ?_) fun _ _ e => e)
  obtain ⟨k1, d, ⟨t, rfl, he⟩, r⟩ := q
  cases r
  refine ⟨"str", id, F.plainAttrs_str, slot, ty, typeIs_str _ _ _, (fun _ e => nomatch e), ?_⟩
  refine Calls.callWith_builtin rfl (PyProof.Rows.evalArgs_none ?_)
  exact wp_kp k1 (he A s₁ _ ao (c.kp k1).w (c.kp k1).tk (.cons .str .nil))

theorem EvF.callt {x : Str} {np pos : Pos} {args : List Expr} {T : String} {K : D → Prop} (hx : G.glob x (.raw (.type T))) (hs : sc.names.lookup x = some .globalImplicit)
    (h : EvL G k sc ρ args fun ds => CaF G k (.type T) ds K) (hd : (x == ("__debug__" : Str)) = false := by decide) (hne : ∀ env, starEach args env ≠ [] := by with_unfolding_all (intro _ h; cases h)) : EvF G k sc ρ (.Call (.Name x np) args [] pos) K := fun A env s ao c => by
  rw [eval_CallName]
  refine wpAny_bind (wpAny_mono (Ev.glob (K := fun d => d = .raw (.type T)) hx hs rfl hd A env s ao c) (fun f s₁ q => ?_) fun _ _ e => e)
  obtain ⟨k1, d, rfl, r⟩ := q
  cases r
  refine PyProof.Rows.callWith_type (back_any pos _ (h.1 env)).1 (args_wp h ao (c.kp k1) (hne env) fun vs s₂ ds k2 hds rs => ?_)
  exact wp_kpF (keeps_trans k1 k2) (hds A s₂ vs ao (c.kp (keeps_trans k1 k2)).w (c.kp (keeps_trans k1 k2)).tk rs)

theorem EvF.meths {o : Expr} {name : Str} {apos pos : Pos} {args : List Expr} {id : String} {K : D → Prop} (slot : Slot "str" name id) (ty : typeOf (.builtin id) = pure (.type "method_descriptor"))
    (h : Ev G k sc ρ o fun x => ∃ t, x = .str t ∧ EvL G k sc ρ args fun ds => CaF G k (.builtin id) (.str t :: ds) K)
    (hbase : ∀ env, attributeBase o name env (eval o env) = eval o env := by intro _; kernel_rfl) (hline : (apos.endLine == pos.line) = true := by kernel_rfl) (hlen : args.length < 29 := by decide) (hne : ∀ env, starEach args env ≠ [] := by with_unfolding_all (intro _ h; cases h))
    (hst : ∀ env, (starEach args env).all (fun x => !x.1) = true := by intro _; kernel_rfl) :
    EvF G k sc ρ (.Call (.Attribute o name apos) args [] pos) K := fun A env s ao c => by
  refine wpAny_Call_method_lateS (hbase env) ?_ hline (wpAny_mono (h A env s ao c) (fun ov s₁ q => ?_) fun _ _ e => e)
  · rw [(back_any pos _ (hst env)).2]
    show (true && true && decide (args.length + 0 + 0 < 30)) = true
    simp; omega
  obtain ⟨k1, d, ⟨t, rfl, he⟩, r⟩ := q
  cases r
  refine ⟨"str", id, F.plainAttrs_str, slot, ty, typeIs_str _ _ _, (fun _ e => nomatch e), ?_⟩
  refine Calls.callWith_builtin (back_any pos _ (hst env)).1 (args_wp he ao (c.kp k1) (hne env) fun vs s₂ ds k2 hds rs => ?_)
  exact wp_kpF (keeps_trans k1 k2) (hds A s₂ _ ao (c.kp (keeps_trans k1 k2)).w (c.kp (keeps_trans k1 k2)).tk (.cons .str rs))
theorem EvF.meths0 {o : Expr} {name : Str} {apos pos : Pos} {id : String} {K : D → Prop} (slot : Slot "str" name id) (ty : typeOf (.builtin id) = pure (.type "method_descriptor"))
    (h : Ev G k sc ρ o fun x => ∃ t, x = .str t ∧ CaF G k (.builtin id) [.str t] K)
    (hbase : ∀ env, attributeBase o name env (eval o env) = eval o env := by intro _; kernel_rfl) (hline : (apos.endLine == pos.line) = true := by kernel_rfl) :
    EvF G k sc ρ (.Call (.Attribute o name apos) [] [] pos) K := fun A env s ao c => by
  refine wpAny_Call_method_lateS (hbase env) rfl hline (wpAny_mono (h A env s ao c) (fun ov s₁ q => ?_) fun _ _ e => e)
  obtain ⟨k1, d, ⟨t, rfl, he⟩, r⟩ := q
  cases r
  refine ⟨"str", id, F.plainAttrs_str, slot, ty, typeIs_str _ _ _, (fun _ e => nomatch e), ?_⟩
  refine Calls.callWith_builtin rfl (PyProof.Rows.evalArgs_none ?_)
  exact wp_kpF k1 (he A s₁ _ ao (c.kp k1).w (c.kp k1).tk (.cons .str .nil))

/-! displays -/
theorem Ev.list {es : List Expr} {pos : Pos} {K : D → Prop} (h : EvL G k sc ρ es fun ds => ds.length ≤ sizeLine ∧ K (.list ds)) : Ev G k sc ρ (.List es pos) K := fun A env s ao c => by
  refine List_ (wpAny_mono (h.2 A env s pos ao c) (fun vs s₁ q => ?_) fun _ _ e => e)
  obtain ⟨k1, ds, ⟨hl, hK⟩, rs⟩ := q
  refine wp_kp k1 (up (wpAny_newObj_type ⟨⟨_, s₁.toks, rfl, fun _ _ e => Heap.get?_push_of_some _ e⟩, _, hK, ?_⟩ (by show vs.toArray.size ≤ sizeLine; rw [List.size_toArray, rs.length]; exact hl)))
  exact .list (n := 0) (Heap.get?_push_size _ rfl) (rs.kp fun _ _ e => Heap.get?_push_of_some _ e)
theorem EvF.list {es : List Expr} {pos : Pos} {K : D → Prop} (h : EvL G k sc ρ es fun ds => ds.length ≤ sizeLine ∧ K (.list ds)) : EvF G k sc ρ (.List es pos) K := fun A env s ao c => by
  refine List_ (wpAny_mono (h.2 A env s pos ao c) (fun vs s₁ q => ?_) fun _ _ e => e)
  obtain ⟨k1, ds, ⟨hl, hK⟩, rs⟩ := q
  refine wp_kpF k1 (up (wpAny_newObj_type ⟨⟨_, s₁.toks, rfl, fun _ _ e => Heap.get?_push_of_some _ e⟩, ⟨_, hK, ?_⟩, fresh_size⟩ (by show vs.toArray.size ≤ sizeLine; rw [List.size_toArray, rs.length]; exact hl)))
  exact .list (n := 0) (Heap.get?_push_size _ rfl) (rs.kp fun _ _ e => Heap.get?_push_of_some _ e)
theorem Ev.tup {es : List Expr} {n : Nat} {pos : Pos} {K : D → Prop} (h : EvL G k sc ρ es fun ds => ds.length ≤ sizeLine ∧ K (.tup ds)) : Ev G k sc ρ (.Tuple es n pos) K := fun A env s ao c => by
  refine Tuple_ (wpAny_mono (h.2 A env s pos ao c) (fun vs s₁ q => ?_) fun _ _ e => e)
  obtain ⟨k1, ds, ⟨hl, hK⟩, rs⟩ := q
  refine wp_kp k1 (up (wpAny_newObj_type ⟨⟨_, s₁.toks, rfl, fun _ _ e => Heap.get?_push_of_some _ e⟩, _, hK, ?_⟩ (by show vs.toArray.size ≤ sizeLine; rw [List.size_toArray, rs.length]; exact hl)))
  exact .tup (n := 0) (Heap.get?_push_size _ rfl) (rs.kp fun _ _ e => Heap.get?_push_of_some _ e)
end
end Mine
end
section
set_option linter.unusedVariables false
namespace Mine
open PySem PyProof.Rows

/-! built-in functions and methods upon data -/

theorem rep_strs {h : Heap} : ∀ {vs : List Value} {ts : List (List Nat)}, RepAll h vs (ts.map D.str) → ∃ l : List (Str × Tok), vs = strValues l ∧ l.map (·.1) = ts.map S
  | [], [], _ => ⟨[], rfl, rfl⟩
  | _ :: _, t :: ts, .cons r rs => by
    obtain ⟨l, e1, e2⟩ := rep_strs rs
    cases r
    rename_i u
    exact ⟨(S t, u) :: l, by rw [e1]; rfl, by rw [List.map_cons, e2]; rfl⟩
theorem strs_rep {h : Heap} : ∀ {l : List (Str × Tok)} {ts : List (List Nat)}, l.map (·.1) = ts.map S → RepAll h (strValues l) (ts.map D.str)
  | [], [], _ => .nil
  | [], _ :: _, e => by simp at e
  | _ :: _, [], e => by simp at e
  | (x, u) :: l, t :: ts, e => by
    simp only [List.map_cons, List.cons.injEq] at e
    obtain ⟨rfl, e⟩ := e
    exact .cons .str (strs_rep e)
theorem rep_ints {h : Heap} : ∀ {vs : List Value} {ns : List Int}, RepAll h vs (ns.map D.int) → ∃ xs : List (Int × Tok), vs = xs.map (fun p => Value.int p.1 p.2) ∧ xs.map (·.1) = ns
  | [], [], _ => ⟨[], rfl, rfl⟩
  | _ :: _, n :: ns, .cons r rs => by
    obtain ⟨l, e1, e2⟩ := rep_ints rs
    cases r
    rename_i u
    exact ⟨(n, u) :: l, by rw [e1]; rfl, by rw [List.map_cons, e2]⟩
theorem rep_intsAre {h : Heap} : ∀ {vs : List Value} {ns : List Int}, RepAll h vs (ns.map D.int) → IntsAre vs ns
  | [], [], _ => .nil
  | _ :: _, n :: ns, .cons r rs => by cases r; exact .cons _ _ (rep_intsAre rs)
theorem intsAre_rep {h : Heap} : ∀ {vs : List Value} {ns : List Int}, IntsAre vs ns → RepAll h vs (ns.map D.int)
  | _, _, .nil => .nil
  | _, _, .cons _ _ r => .cons .int (intsAre_rep r)

theorem RepAll.inv1 {h : Heap} {vs : List Value} {d : D} (r : RepAll h vs [d]) : ∃ v, vs = [v] ∧ Rep h v d := by
  cases r with | cons a b => cases b; exact ⟨_, rfl, a⟩
theorem RepAll.inv2 {h : Heap} {vs : List Value} {d e : D} (r : RepAll h vs [d, e]) : ∃ v u, vs = [v, u] ∧ Rep h v d ∧ Rep h u e := by
  cases r with | cons a b => obtain ⟨u, hu, b'⟩ := b.inv1; subst hu; exact ⟨_, _, rfl, a, b'⟩
theorem RepAll.inv3 {h : Heap} {vs : List Value} {d e f : D} (r : RepAll h vs [d, e, f]) : ∃ v u x, vs = [v, u, x] ∧ Rep h v d ∧ Rep h u e ∧ Rep h x f := by
  cases r with | cons a b => obtain ⟨u, x, hu, b', c'⟩ := b.inv2; subst hu; exact ⟨_, _, _, rfl, a, b', c'⟩
theorem RepAll.inv4 {h : Heap} {vs : List Value} {d e f g : D} (r : RepAll h vs [d, e, f, g]) : ∃ v u x y, vs = [v, u, x, y] ∧ Rep h v d ∧ Rep h u e ∧ Rep h x f ∧ Rep h y g := by
  cases r with | cons a b => obtain ⟨u, x, y, hu, b', c', d'⟩ := b.inv3; subst hu; exact ⟨_, _, _, _, rfl, a, b', c', d'⟩
theorem Rep.listInv {h : Heap} {v : Value} {ds : List D} (r : Rep h v (.list ds)) : ∃ a vs n, v = .ref a ∧ h.get? a = some (listObj vs n) ∧ RepAll h vs ds := by
  cases r with | list e r => exact ⟨_, _, _, rfl, e, r⟩
theorem Rep.tupInv {h : Heap} {v : Value} {ds : List D} (r : Rep h v (.tup ds)) : ∃ a vs n, v = .ref a ∧ h.get? a = some (tupObj vs n) ∧ RepAll h vs ds := by
  cases r with | tup e r => exact ⟨_, _, _, rfl, e, r⟩
theorem Rep.strInv {h : Heap} {v : Value} {t : List Nat} (r : Rep h v (.str t)) : ∃ u, v = .str (S t) u := by cases r; exact ⟨_, rfl⟩
theorem Rep.intInv {h : Heap} {v : Value} {i : Int} (r : Rep h v (.int i)) : ∃ u, v = .int i u := by cases r; exact ⟨_, rfl⟩

section
variable {G : Gx} {k : Nat}

theorem Ca.len_str {t : List Nat} {K : D → Prop} (hf : t.length ≤ sizeLine) (h : K (.int t.length)) : Ca G k (.builtin "len") [.str t] K := fun A s vs _ _ _ rs => by
  obtain ⟨v, rfl, r⟩ := rs.inv1
  cases r
  have e := sizeLine_eq
  exact up (P.len_str (by simp only [Str.length, List.size_toArray]; omega) ⟨ke_tok s _, _, h, by simp only [Str.length, List.size_toArray]; exact .int⟩)
theorem Ca.len_list {t : List D} {K : D → Prop} (hf : t.length ≤ sizeLine) (h : K (.int t.length)) : Ca G k (.builtin "len") [.list t] K := fun A s vs _ _ _ rs => by
  obtain ⟨v, rfl, r⟩ := rs.inv1
  obtain ⟨a, vs, n, rfl, e1, r1⟩ := r.listInv
  have e := sizeLine_eq
  have l1 := r1.length
  exact up (PyProof.Rows.len_list (IsL.isList e1) (by simp only [List.size_toArray]; omega) ⟨ke_tok s _, _, h, by simp only [List.size_toArray, l1]; exact .int⟩)
theorem Ca.ord {c : Nat} {K : D → Prop} (h : K (.int c)) : Ca G k (.builtin "ord") [.str [c]] K := fun A s vs _ _ _ rs => by
  obtain ⟨v, rfl, r⟩ := rs.inv1
  cases r
  exact up (P.ord_of_char ⟨ke_tok s _, _, h, .int⟩)
theorem CaF.range {n : Nat} {K : D → Prop} (h : K (.rng n)) : CaF G k (.type "range") [.int n] K := fun A s vs _ _ _ rs => by
  obtain ⟨v, rfl, r⟩ := rs.inv1
  cases r
  exact up (call_range_1 ⟨ke_push s _ _, ⟨_, h, .rng (Heap.get?_push_size _ rfl)⟩, fresh_size⟩)
theorem Ca.range {n : Nat} {K : D → Prop} (h : K (.rng n)) : Ca G k (.type "range") [.int n] K := (CaF.range h).toCa
theorem Ca.bytes {ns : List Nat} {K : D → Prop} (hr : ∀ n ∈ ns, n < 256) (hz : ns.length ≤ sizeLine) (h : K (.bytes (ns.map fun n => n.toUInt8))) : Ca G k (.type "bytes") [.list (ns.map fun (n : Nat) => D.int n)] K := fun A s vs ao _ _ rs => by
  obtain ⟨v, rfl, r⟩ := rs.inv1
  obtain ⟨a, vs, n, rfl, e1, r1⟩ := r.listInv
  have e : ns.map (fun (n : Nat) => D.int n) = (ns.map fun (n : Nat) => (n : Int)).map D.int := by simp
  rw [e] at r1
  have hi := rep_intsAre r1
  refine up (call_bytes_ints (IsL.isList e1) hi ?_ (by rw [r1.length]; simpa using hz) ao.1 fun h' t kk hk => ⟨⟨h', kk, rfl, hk⟩, _, h, ?_⟩)
  · intro n hn
    obtain ⟨m, hm, rfl⟩ := List.mem_map.mp hn
    have := hr m hm
    omega
  · have e2 : byteArr (ns.map fun (n : Nat) => (n : Int)) = (ns.map fun n => n.toUInt8).toArray := by
      simp [byteArr]
    rw [e2]; exact .bytes
theorem Ca.startswith {x y : List Nat} {K : D → Prop} (h : K (.bool (Txt.startswith (S x) (S y)))) : Ca G k (.builtin "str.startswith") [.str x, .str y] K := fun A s vs _ _ _ rs => by
  obtain ⟨v, v', rfl, r, r'⟩ := rs.inv2
  cases r; cases r'
  exact up (SC.startswith ⟨⟨s.heap, s.toks, rfl, fun _ _ e => e⟩, _, h, .bool⟩)
theorem Ca.endswith {x y : List Nat} {K : D → Prop} (h : K (.bool (Txt.endswith (S x) (S y)))) : Ca G k (.builtin "str.endswith") [.str x, .str y] K := fun A s vs _ _ _ rs => by
  obtain ⟨v, v', rfl, r, r'⟩ := rs.inv2
  cases r; cases r'
  exact up (SC.endswith ⟨⟨s.heap, s.toks, rfl, fun _ _ e => e⟩, _, h, .bool⟩)
theorem Ca.join {x : List Nat} {ts : List (List Nat)} {K : D → Prop} (hok : JoinOk (S x) (ts.map S) = true) (h : K (.str (Txt.join (S x) (ts.map S)).cps.toList)) : Ca G k (.builtin "str.join") [.str x, .list (ts.map D.str)] K := fun A s vs _ _ _ rs => by
  obtain ⟨v, v', rfl, r, r'⟩ := rs.inv2
  cases r
  obtain ⟨a, vs, n, rfl, e1, r1⟩ := r'.listInv
  obtain ⟨l, rfl, e2⟩ := rep_strs r1
  refine up (SC.join (IsL.isList e1) e2 hok fun t' kk => ⟨ke_tok s _, _, h, ?_⟩)
  exact .str
theorem CaF.split {x y : List Nat} {ts : List (List Nat)} {K : D → Prop} (hy : y ≠ []) (hx : x.length + 2 ≤ sizeLine) (hts : Txt.split (S x) (S y) = ts.map S) (h : K (.list (ts.map D.str))) : CaF G k (.builtin "str.split") [.str x, .str y] K := fun A s vs _ _ _ rs => by
  obtain ⟨v, v', rfl, r, r'⟩ := rs.inv2
  cases r; cases r'
  rename_i t u
  have hy' : ((S y).length == 0) = false := by cases y with | nil => exact absurd rfl hy | cons a l => simp [Str.length]
  have hx' : (S x).length ≤ sizeLine := by simp only [Str.length, List.size_toArray]; omega
  refine up ?_
  cases h1 : (decide ((S x).length < (S y).length) || decide (Builtin.Str.strKind (S x) < Builtin.Str.strKind (S y)))
  · cases hf : (Builtin.Str.occurrences (S x) (S y) 0 (S x).length ((S x).length + 1)).isEmpty
    · have e3 : Txt.split (S x) (S y) = Builtin.Str.partsBetween (S x) (Builtin.Str.occurrences (S x) (S y) 0 (S x).length ((S x).length + 1)) (S y).length := (if_neg (ne_true_of_eq_false h1)).trans (if_neg (ne_true_of_eq_false hf))
      have hn : (Builtin.Str.partsBetween (S x) (Builtin.Str.occurrences (S x) (S y) 0 (S x).length ((S x).length + 1)) (S y).length).length ≤ sizeLine := by
        have h9 := StrLaws.occ_length_le (S x) (S y) 0 (S x).length ((S x).length + 1)
        have hl : (S x).length = x.length := by simp [Str.length]
        unfold Builtin.Str.partsBetween
        simp only [List.length_map, List.length_zip, List.length_cons, List.length_append, List.length_nil]
        omega
      refine call_meets F.slot_str_split (typeIs_str _ _ _) F.entry_str_split (F.args_str_split_2 _ _) (meets_str_split_sep (S x) (S y) t u h1 hy' hf hx' hn) ?_
      show wants _ _ _ { s with toks := _, heap := s.heap.push { cls := .type "list", data := .seq (strsFrom s.toks (Builtin.Str.partsBetween (S x) (Builtin.Str.occurrences (S x) (S y) 0 (S x).length ((S x).length + 1)) (S y).length)).toArray } }
      rw [strsFrom_eq]
      refine ⟨ke_push s _ _, ⟨_, h, .list (n := 0) (Heap.get?_push_size _ rfl) (strs_rep ?_)⟩, fresh_size⟩
      rw [← hts, e3]; exact numbered_texts _ _
    · have e3 : Txt.split (S x) (S y) = [S x] := (if_neg (ne_true_of_eq_false h1)).trans (if_pos hf)
      refine call_meets F.slot_str_split (typeIs_str _ _ _) F.entry_str_split (F.args_str_split_2 _ _) (meets_str_split_not_found (S x) (S y) t u h1 hy' hf)
        ⟨ke_push s _ _, ⟨_, h, .list (vs := strValues [(S x, t)]) (n := 0) (Heap.get?_push_size _ rfl) (strs_rep ?_)⟩, fresh_size⟩
      rw [← hts, e3]; rfl
  · have e3 : Txt.split (S x) (S y) = [S x] := if_pos h1
    refine call_meets F.slot_str_split (typeIs_str _ _ _) F.entry_str_split (F.args_str_split_2 _ _) (meets_str_split_cannot_occur (S x) (S y) t u h1)
      ⟨ke_push s _ _, ⟨_, h, .list (vs := strValues [(S x, t)]) (n := 0) (Heap.get?_push_size _ rfl) (strs_rep ?_)⟩, fresh_size⟩
    rw [← hts, e3]; rfl
theorem Ca.sum {ns : List Int} {K : D → Prop} (h : ∀ n, K (.int n)) : Ca G k (.builtin "sum") [.list (ns.map D.int)] K := fun A s vs ao _ _ rs => by
  obtain ⟨v, rfl, r⟩ := rs.inv1
  obtain ⟨a, vs, n, rfl, e1, r1⟩ := r.listInv
  obtain ⟨xs, rfl, e2⟩ := rep_ints r1
  have e : (xs.map fun p => Value.int p.1 p.2).toArray = intItems xs.toArray := by simp [intItems]
  exact up (sum_intListG (xs := xs.toArray) ao.1 (e ▸ IsL.isList e1) fun h' tk t' hk => ⟨⟨h', tk, rfl, hk⟩, _, h _, .int⟩)
theorem Ca.min {ns : List Int} {m : Int} {K : D → Prop} (hm : ns.min? = some m) (h : K (.int m)) : Ca G k (.builtin "min") [.list (ns.map D.int)] K := fun A s vs ao _ _ rs => by
  obtain ⟨v, rfl, r⟩ := rs.inv1
  obtain ⟨a, vs, n, rfl, e1, r1⟩ := r.listInv
  obtain ⟨xs, rfl, e2⟩ := rep_ints r1
  have e : (xs.map fun p => Value.int p.1 p.2).toArray = intItems xs.toArray := by simp [intItems]
  have hn : ∀ i, (hi : i < ns.length) → numAt xs.toArray i = ns[i] := fun i hi => by
    subst e2
    rw [List.length_map] at hi
    simp [numAt, List.getElem?_eq_getElem hi]
  have hl : xs.length = ns.length := by rw [← e2, List.length_map]
  have hpos : 0 < ns.length := by cases ns with | nil => cases hm | cons _ _ => simp
  refine up (min_intList (xs := xs.toArray) ao.1 (e ▸ IsL.isList e1) (by simpa using hl ▸ hpos) fun v h' tk hv hk => ⟨⟨h', tk, rfl, hk⟩, _, h, ?_⟩)
  obtain ⟨t, rfl⟩ := intItems_at hv
  obtain ⟨b1, b2⟩ := argBest_lt (numAt xs.toArray) (xs.toArray.size - 1)
  have hsz : xs.toArray.size = ns.length := by simpa using hl
  generalize argBest (fun i j => decide (numAt xs.toArray i < numAt xs.toArray j)) (xs.toArray.size - 1) = j at b1 b2 hv ⊢
  have hj : j < ns.length := by omega
  have : numAt xs.toArray j = m := by
    obtain ⟨m1, m2⟩ := List.min?_eq_some_iff.mp hm
    rw [hn j hj] at b2 ⊢
    obtain ⟨i, hi, rfl⟩ := List.getElem_of_mem m1
    have h1 := b2 i (by omega)
    rw [hn i hi] at h1
    have h2 := m2 _ (List.getElem_mem hj)
    omega
  rw [this]; exact .int
end
end Mine
end
section
set_option linter.unusedVariables false
namespace Mine
open PySem PyProof.Rows

/-! items and cuts -/
def lowI (n : Nat) : Option Int → Nat
  | none => 0
  | some i => (max 0 (min (if i < 0 then i + n else i) (n : Int))).toNat
def highI (n : Nat) : Option Int → Nat
  | none => n
  | some i => (max 0 (min (if i < 0 then i + n else i) (n : Int))).toNat
def cut {α : Type} (lo hi : Option Int) (l : List α) : List α := (l.drop (lowI l.length lo)).take (highI l.length hi - lowI l.length lo)

theorem sliceRange_one (a b : Nat) : sliceRange (a : Int) (b : Int) 1 = (List.range (b - a)).map fun k => a + k := by
  unfold sliceRange
  simp only [show (1 : Int) > 0 from by decide, if_true]
  have e : (if (a : Int) < b then ((b : Int) - a + 1 - 1) / 1 else 0).toNat = b - a := by
    split
    · have : ((b : Int) - a + 1 - 1) / 1 = (b : Int) - a := by rw [Int.ediv_one]; omega
      rw [this]; omega
    · omega
  rw [e]
  refine List.map_congr_left fun k _ => ?_
  omega
theorem low_le (n : Nat) (o : Option Int) : lowI n o ≤ n := by cases o <;> simp only [lowI] <;> omega
theorem high_le (n : Nat) (o : Option Int) : highI n o ≤ n := by cases o <;> simp only [highI] <;> omega
theorem sliceIdx (lo hi : Option Int) (n : Nat) : Builtin.Str.strSliceIndices lo hi 1 n = (List.range (highI n hi - lowI n lo)).map fun k => lowI n lo + k := by
  have h1 : ∀ i : Int, max (0 : Int) (min (if i < 0 then i + n else i) (n : Int)) = ((max 0 (min (if i < 0 then i + n else i) (n : Int))).toNat : Int) := fun i => by omega
  unfold Builtin.Str.strSliceIndices
  simp only [show (1 : Int) > 0 from by decide, if_true]
  cases lo with
  | none => cases hi with
    | none => simp only [lowI, highI]; exact sliceRange_one 0 n
    | some j => simp only [lowI, highI]; rw [h1 j]; exact sliceRange_one 0 _
  | some i => cases hi with
    | none => simp only [lowI, highI]; rw [h1 i]; exact sliceRange_one _ n
    | some j => simp only [lowI, highI]; rw [h1 i, h1 j]; exact sliceRange_one _ _
theorem boundsIdx (lo hi : Option Int) (n : Nat) : sliceRange (sliceBounds lo hi none n).1 (sliceBounds lo hi none n).2.1 (sliceBounds lo hi none n).2.2 = (List.range (highI n hi - lowI n lo)).map fun k => lowI n lo + k := by
  rw [← sliceIdx]; rfl
theorem picked {α : Type} (l : List α) (lo hi : Option Int) : ((List.range (highI l.length hi - lowI l.length lo)).map fun k => lowI l.length lo + k).filterMap (l[·]?) = cut lo hi l := by
  unfold cut
  by_cases h : lowI l.length lo ≤ highI l.length hi
  · exact StrLaws.picks l _ _ (by have := high_le l.length hi; omega)
  · have : highI l.length hi - lowI l.length lo = 0 := by omega
    rw [this]; simp
theorem cut_length_le {α : Type} (lo hi : Option Int) (l : List α) : (cut lo hi l).length ≤ l.length := by
  unfold cut; simp only [List.length_take, List.length_drop]; omega
theorem cut_whole {α : Type} {lo hi : Option Int} {l : List α} (h : highI l.length hi - lowI l.length lo = l.length) : cut lo hi l = l := by
  have h1 := high_le l.length hi
  have : lowI l.length lo = 0 ∨ l.length = 0 := by omega
  unfold cut
  rw [h]
  rcases this with e | e
  · rw [e, List.drop_zero, List.take_length]
  · have : l = [] := List.eq_nil_of_length_eq_zero e
    subst this; simp
theorem slice_S (x : List Nat) (lo hi : Option Int) : Txt.slice (S x) lo hi = S (cut lo hi x) := by
  unfold Txt.slice
  have hl : (S x).length = x.length := by simp [Str.length]
  rw [hl, sliceIdx]
  by_cases h : highI x.length hi - lowI x.length lo = x.length
  · rw [if_pos (by simp [h]), cut_whole h]
  · rw [if_neg (by simp; exact h)]
    have := picked x lo hi
    simp only [List.getElem?_toArray]
    rw [this]
theorem slicePick_list (vs : List Value) (lo hi : Option Int) : slicePick vs.toArray lo hi none = (cut lo hi vs).toArray := by
  unfold slicePick
  rw [List.size_toArray, boundsIdx]
  have := picked vs lo hi
  simp only [List.getElem?_toArray]
  rw [this]
theorem RepAll.drop {h : Heap} : ∀ {vs : List Value} {ds : List D} (n : Nat), RepAll h vs ds → RepAll h (vs.drop n) (ds.drop n)
  | _, _, 0, r => r
  | _, _, _ + 1, .nil => .nil
  | _, _, n + 1, .cons _ r => RepAll.drop n r
theorem RepAll.take {h : Heap} : ∀ {vs : List Value} {ds : List D} (n : Nat), RepAll h vs ds → RepAll h (vs.take n) (ds.take n)
  | _, _, 0, _ => .nil
  | _, _, _ + 1, .nil => .nil
  | _, _, n + 1, .cons a r => .cons a (RepAll.take n r)
theorem RepAll.cut {h : Heap} {vs : List Value} {ds : List D} (lo hi : Option Int) (r : RepAll h vs ds) : RepAll h (cut lo hi vs) (cut lo hi ds) := by
  unfold Mine.cut
  rw [r.length]
  exact (r.drop _).take _

def EvO (G : Gx) (k : Nat) (sc : Scope) (ρ : Rho) (o : Option Expr) (K : Option Int → Prop) : Prop :=
  ∀ A env s, AOk k A → Cx G sc env ρ s → wpAny (M G) A (evalPart o env) (fun v s' => Kk s s' ∧ ∃ i, IsPart v i ∧ K i) No s
/-- the end of a subscription -/
def It (G : Gx) (k : Nat) (value slice : Expr) (x y : D) (K : D → Prop) : Prop :=
  ∀ A s v u, AOk k A → Rep s.heap v x → Rep s.heap u y → wpAny (M G) A (subscriptTail value slice v u) (Po s K) No s
def Sl (G : Gx) (k : Nat) (value slice : Expr) (x : D) (lo hi : Option Int) (K : D → Prop) : Prop :=
  ∀ A s v vl vu, AOk k A → Rep s.heap v x → IsPart vl lo → IsPart vu hi →
    wpAny (M G) A (subscriptTail value slice v (.ref s.heap.objs.size)) (Po s K) No { s with heap := s.heap.push { cls := .type "slice", data := .fields #[vl, vu, .none] } }

section
variable {G : Gx} {k : Nat} {sc : Scope} {ρ : Rho}
theorem EvO.none {K : Option Int → Prop} (h : K none) : EvO G k sc ρ none K := fun A env s _ _ => wpAny_pure ⟨keeps_refl s, _, .none, h⟩
theorem EvO.some {e : Expr} {K : Option Int → Prop} (h : Ev G k sc ρ e fun d => ∃ i, d = .int i ∧ K (some i)) : EvO G k sc ρ (some e) K := fun A env s a c =>
  wpAny_mono (h A env s a c) (fun v s₁ q => by
    obtain ⟨k1, d, ⟨i, rfl, hi⟩, r⟩ := q
    obtain ⟨t, rfl⟩ := r.intInv
    exact ⟨k1, _, .int i t, hi⟩) fun _ _ e => e

theorem Ev.item {value slice : Expr} {pos : Pos} {K : D → Prop} (h : Ev G k sc ρ value fun x => Ev G k sc ρ slice fun y => It G k value slice x y K) : Ev G k sc ρ (.Subscript value slice pos) K := fun A env s a c => by
  refine Subscript_ (wpAny_mono (h A env s a c) (fun v s₁ q => ?_) fun _ _ e => e)
  obtain ⟨k1, x, hx, rx⟩ := q
  refine wpAny_mono (hx A env s₁ a (c.kp k1)) (fun u s₂ q => ?_) fun _ _ e => e
  obtain ⟨k2, y, hy, ry⟩ := q
  exact wp_kp (keeps_trans k1 k2) (hy A s₂ v u a (rx.kp (keeps_kp k2)) ry)

theorem Ev.slice {value : Expr} {lo hi : Option Expr} {p pos : Pos} {K : D → Prop} (h : Ev G k sc ρ value fun x => EvO G k sc ρ lo fun l => EvO G k sc ρ hi fun u => Sl G k value (.Slice lo hi none p) x l u K) :
    Ev G k sc ρ (.Subscript value (.Slice lo hi none p) pos) K := fun A env s a c => by
  refine Subscript_ (wpAny_mono (h A env s a c) (fun v s₁ q => ?_) fun _ _ e => e)
  obtain ⟨k1, x, hx, rx⟩ := q
  refine wpAny_Slice (wpAny_mono (hx A env s₁ a (c.kp k1)) (fun vl s₂ q => ?_) fun _ _ e => e)
  obtain ⟨k2, l, pl, hl⟩ := q
  refine wpAny_mono (hl A env s₂ a (c.kp (keeps_trans k1 k2))) (fun vu s₃ q => ?_) fun _ _ e => e
  obtain ⟨k3, u, pu, hu⟩ := q
  rw [evalPart_none]
  refine wpAny_pure ?_
  have k23 := keeps_trans k2 k3
  refine wpAny_mono (hu A s₃ v vl vu a (rx.kp (keeps_kp k23)) pl pu) (fun r s₄ q => ?_) fun _ _ e => e
  exact ⟨keeps_trans (keeps_trans k1 k23) q.1, q.2⟩

theorem It.list {value slice : Expr} {ds : List D} {i : Int} {d : D} {K : D → Prop} (h0 : 0 ≤ i) (hx : ds[i.toNat]? = some d) (hf : ds.length ≤ sizeLine) (h : K d)
    (hs : ∀ v u, subscripted slice false v u = operate [v, u] (getItem v u) := by intro _ _; kernel_rfl) (hg : ∀ a r, letTemporaryGo value (.ref a) r = pure () := by intro _ _; kernel_rfl) : It G k value slice (.list ds) (.int i) K := fun A s v u _ rv ru => by
  obtain ⟨a, vs, n, rfl, e1, r1⟩ := rv.listInv
  obtain ⟨t, rfl⟩ := ru.intInv
  obtain ⟨w, hw, r⟩ := r1.get hx
  have hlt : i.toNat < ds.length := (List.getElem?_eq_some_iff.mp hx).1
  have e := sizeLine_eq
  exact PyProof.Rows.item_list (IsL.isList e1) h0 (by omega) (by simpa using hw) ⟨keeps_refl s, _, h, r⟩ (hs _ _) (hg a)
theorem It.tup {value slice : Expr} {ds : List D} {i : Int} {d : D} {K : D → Prop} (h0 : 0 ≤ i) (hx : ds[i.toNat]? = some d) (hf : ds.length ≤ sizeLine) (h : K d)
    (hs : ∀ v u, subscripted slice false v u = operate [v, u] (getItem v u) := by intro _ _; kernel_rfl) (hg : ∀ a r, letTemporaryGo value (.ref a) r = pure () := by intro _ _; kernel_rfl) : It G k value slice (.tup ds) (.int i) K := fun A s v u _ rv ru => by
  obtain ⟨a, vs, n, rfl, e1, r1⟩ := rv.tupInv
  obtain ⟨t, rfl⟩ := ru.intInv
  obtain ⟨w, hw, r⟩ := r1.get hx
  have hlt : i.toNat < ds.length := (List.getElem?_eq_some_iff.mp hx).1
  have e := sizeLine_eq
  have hsz := r1.length
  exact PyProof.Rows.item_tuple (j := i.toNat) ⟨_, e1, rfl, _, rfl⟩ (by omega) (by omega) (by rw [List.size_toArray, StrLaws.seqIndex_nonneg h0 (by omega)]) (by simpa using hw) ⟨keeps_refl s, _, h, r⟩ (hs _ _) (hg a)
theorem It.listNeg {value slice : Expr} {ds : List D} {i : Int} {d : D} {K : D → Prop} (h0 : i < 0) (h1 : -(ds.length : Int) ≤ i) (hx : ds[(i + ds.length).toNat]? = some d) (hf : ds.length ≤ sizeLine) (h : K d)
    (hs : ∀ v u, subscripted slice false v u = operate [v, u] (getItem v u) := by intro _ _; kernel_rfl) (hg : ∀ a r, letTemporaryGo value (.ref a) r = pure () := by intro _ _; kernel_rfl) : It G k value slice (.list ds) (.int i) K := fun A s v u _ rv ru => by
  obtain ⟨a, vs, n, rfl, e1, r1⟩ := rv.listInv
  obtain ⟨t, rfl⟩ := ru.intInv
  obtain ⟨w, hw, r⟩ := r1.get hx
  have e := sizeLine_eq
  have hsz := r1.length
  exact subscriptTail_builtin (IsL.isList e1).typeIs slot_list_getitem.lookup (wpAny_getItem_list_neg (IsL.isList e1) h0 (by simp only [List.size_toArray]; omega) (by omega) (by simp only [List.size_toArray, List.getElem?_toArray, hsz]; exact hw) ⟨keeps_refl s, _, h, r⟩) (hs _ _) (hg a)
theorem It.str {value slice : Expr} {t : List Nat} {i : Int} {c : Nat} {K : D → Prop} (h0 : 0 ≤ i) (hx : t[i.toNat]? = some c) (hf : t.length ≤ sizeLine) (h : K (.str [c]))
    (hs : ∀ v u, subscripted slice false v u = operate [v, u] (getItem v u) := by intro _ _; kernel_rfl) (hg : ∀ a u r, letTemporaryGo value (.str a u) r = pure () := by intro _ _ _; kernel_rfl) : It G k value slice (.str t) (.int i) K := fun A s v u _ rv ru => by
  obtain ⟨t1, rfl⟩ := rv.strInv
  obtain ⟨t2, rfl⟩ := ru.intInv
  have hlt : i.toNat < t.length := (List.getElem?_eq_some_iff.mp hx).1
  have e := sizeLine_eq
  have hl : (S t).length = t.length := by simp [Str.length]
  refine up (item_str (by unfold fitsSsize; simp; omega) (by omega) (by omega) (fun _ => ⟨ke_tok s _, _, h, ?_⟩) (hs _ _) (hg _ _))
  have : Txt.item (S t) i = S [c] := by
    unfold Txt.item Txt.charAt
    rw [hl, StrLaws.seqIndex_nonneg h0 (by omega)]
    simp [hx]
  rw [this]; exact .str
theorem It.strNeg {value slice : Expr} {t : List Nat} {i : Int} {c : Nat} {K : D → Prop} (h0 : i < 0) (h1 : -(t.length : Int) ≤ i) (hx : t[(i + t.length).toNat]? = some c) (hf : t.length ≤ sizeLine) (h : K (.str [c]))
    (hs : ∀ v u, subscripted slice false v u = operate [v, u] (getItem v u) := by intro _ _; kernel_rfl) (hg : ∀ a u r, letTemporaryGo value (.str a u) r = pure () := by intro _ _ _; kernel_rfl) : It G k value slice (.str t) (.int i) K := fun A s v u _ rv ru => by
  obtain ⟨t1, rfl⟩ := rv.strInv
  obtain ⟨t2, rfl⟩ := ru.intInv
  have e := sizeLine_eq
  have hl : (S t).length = t.length := by simp [Str.length]
  refine up (item_str (by unfold fitsSsize; simp; omega) (by omega) (by omega) (fun _ => ⟨ke_tok s _, _, h, ?_⟩) (hs _ _) (hg _ _))
  have : Txt.item (S t) i = S [c] := by
    unfold Txt.item Txt.charAt
    rw [hl, StrLaws.seqIndex_neg h0 h1]
    simp [hx]
  rw [this]; exact .str

theorem up2 {α : Type} {Mo : Model} {A : Around} {t : Sem α} {s s₁ : Shared} {Q : α → Shared → Prop} (hl : s.toks ≤ s₁.toks) (h : wpAny Mo A t (fun a s' => Keeps s s' ∧ Q a s') (fun _ _ => False) s₁) : wpAny Mo A t (fun a s' => Kk s s' ∧ Q a s') (fun _ _ => False) s₁ :=
  wpAny_mono (wpAny_toks_of hl h) (fun _ _ q => ⟨⟨q.2.1, q.1⟩, q.2.2⟩) fun _ _ e => e.2

theorem kpH (h₀ : Heap) : KeptH (Kp h₀) := fun h ob k b o e => Heap.get?_push_of_some _ (k b o e)
theorem Sl.str {value : Expr} {lo hi : Option Expr} {p : Pos} {t : List Nat} {l u : Option Int} {K : D → Prop} (hf : t.length ≤ sizeLine) (h : K (.str (cut l u t)))
    (hg : ∀ a u r, letTemporaryGo value (.str a u) r = pure () := by intro _ _ _; kernel_rfl) : Sl G k value (.Slice lo hi none p) (.str t) l u K := fun A s v vl vu _ rv pl pu => by
  obtain ⟨t1, rfl⟩ := rv.strInv
  have hf' : (S t).length ≤ sizeLine := by simpa [Str.length] using hf
  refine up2 (Nat.le_refl _) ?_
  have fin : ∀ h' t' k, Kp s.heap h' → (Keeps s { s with heap := h', toks := k } ∧ ∃ d, K d ∧ Rep h' (.str (Txt.slice (S t) l u) t') d) := fun h' t' k hk => ⟨⟨h', k, rfl, hk⟩, _, h, by rw [slice_S]; exact .str⟩
  cases pl <;> cases pu
  · exact tail_of_ItemOn (SBH.sliceItem_nn (kpH s.heap) (fun _ _ e => e) fin hf') rfl (hg _ _)
  · exact tail_of_ItemOn (SBH.sliceItem_ns (kpH s.heap) (fun _ _ e => e) fin hf') rfl (hg _ _)
  · exact tail_of_ItemOn (SBH.sliceItem_sn (kpH s.heap) (fun _ _ e => e) fin hf') rfl (hg _ _)
  · exact tail_of_ItemOn (SBH.sliceItem_ss (kpH s.heap) (fun _ _ e => e) fin hf') rfl (hg _ _)
theorem Sl.list {value : Expr} {lo hi : Option Expr} {p : Pos} {ds : List D} {l u : Option Int} {K : D → Prop} (hf : ds.length ≤ sizeLine) (h : K (.list (cut l u ds)))
    (hg : ∀ a r, letTemporaryGo value (.ref a) r = pure () := by intro _ _; kernel_rfl) : Sl G k value (.Slice lo hi none p) (.list ds) l u K := fun A s v vl vu _ rv pl pu => by
  obtain ⟨a, vs, n, rfl, e1, r1⟩ := rv.listInv
  have hsz := r1.length
  refine up2 (Nat.le_refl _) ?_
  have hl : ({ s with heap := s.heap.push { cls := .type "slice", data := .fields #[vl, vu, .none] } } : Shared).heap.IsList a vs.toArray := IsL.isList (IsL.push e1 _)
  refine subscriptTail_ops hl.typeIs list_getitem_lookup (wpAny_getItem_list_slice hl (Heap.IsSliceOf.new ..) pl pu .none (by simp) ?_ (by simp only [List.size_toArray]; omega)) rfl (hg _)
  refine ⟨⟨_, s.toks, rfl, fun _ _ e => Heap.get?_push_of_some _ (Heap.get?_push_of_some _ e)⟩, _, h, ?_⟩
  rw [slicePick_list]
  exact .list (n := 0) (Heap.get?_push_size _ rfl) ((r1.cut l u).kp fun _ _ e => Heap.get?_push_of_some _ (Heap.get?_push_of_some _ e))
end
end Mine
end
section
set_option linter.unusedVariables false
namespace Mine
open PySem PyProof.Rows PySem.W

set_option maxRecDepth 100000 in
set_option maxHeartbeats 2000000 in
theorem percent_ok (a b : PySem.Str) (t ta tb : Tok) (c : Addr) (ha : a.length ≤ 1000000) (hb : b.length ≤ 1000000) :
    Meets (Builtin.«str.__mod__» ⟨[.str ⟨#[61, 63, 37, 115, 63, 113, 63, 37, 115, 63, 61]⟩ t, .ref c], []⟩) (fun _ R s => IsTup s.heap c #[.str a ta, .str b tb] ∧
      ∀ t' k, R (.ok (.ret (.str (PySem.Str.ofString "=?" ++ a ++ PySem.Str.ofString "?q?" ++ b ++ PySem.Str.ofString "?=") t'))) { s with toks := k }) := by
  kpt_run

section
variable {G : Gx} {k : Nat}
theorem Bo.percent {f a b : List Nat} {K : D → Prop} (hf : f = [61, 63, 37, 115, 63, 113, 63, 37, 115, 63, 61]) (ha : a.length ≤ 1000000) (hb : b.length ≤ 1000000) (h : K (.str ([61, 63] ++ a ++ [63, 113, 63] ++ b ++ [63, 61]))) :
    Bo G k .Mod (.str f) (.tup [.str a, .str b]) K := fun A s v u _ rv ru => by
  subst hf
  obtain ⟨t, rfl⟩ := rv.strInv
  obtain ⟨c, vs, n, rfl, e1, r1⟩ := ru.tupInv
  obtain ⟨v1, v2, rfl, r2, r3⟩ := r1.inv2
  obtain ⟨ta, rfl⟩ := r2.strInv
  obtain ⟨tb, rfl⟩ := r3.strInv
  have ht : IsTup s.heap c #[.str (S a) ta, .str (S b) tb] := ⟨_, e1, rfl, n, rfl⟩
  have hT : s.TypeIs (.ref c) "tuple" := ⟨_, e1, rfl⟩
  refine up (KPt.bin_left (T := "str") (U := "tuple") (op := .Mod) (by decide) (typeIs_str s _ t) hT F.fills_str_mod KPt.fills_tuple F.slot_str_mod
    (call_meets F.slot_str_mod (typeIs_str s _ t) F.entry_str_mod (F.args_str_mod_2 _ _) (percent_ok (S a) (S b) t ta tb c (by simpa [Str.length] using ha) (by simpa [Str.length] using hb)) ⟨ht, fun t' kk => ⟨(fun e => nomatch e), ke_tok s _, _, h, ?_⟩⟩))
  have e : PySem.Str.ofString "=?" ++ S a ++ PySem.Str.ofString "?q?" ++ S b ++ PySem.Str.ofString "?=" = S ([61, 63] ++ a ++ [63, 113, 63] ++ b ++ [63, 61]) := by
    have e1 : PySem.Str.ofString "=?" = S [61, 63] := by decide +kernel
    have e2 : PySem.Str.ofString "?q?" = S [63, 113, 63] := by decide +kernel
    have e3 : PySem.Str.ofString "?=" = S [63, 61] := by decide +kernel
    rw [e1, e2, e3, S_append, S_append, S_append, S_append]
  rw [e]; exact .str

theorem Co.eq_nil {ns : List Int} {K : Bool → Prop} (h : K (ns.isEmpty)) : Co G k .Eq (.list (ns.map D.int)) (.list []) K := fun A s v u ao rv ru => by
  obtain ⟨a, vs, n, rfl, e1, r1⟩ := rv.listInv
  obtain ⟨b, vs', n', rfl, e2, r2⟩ := ru.listInv
  have hl := r1.length
  have hl' := r2.length
  rw [List.length_map] at hl
  have hu : A.units < cLine := by have := ao.2.2; omega
  cases ns with
  | nil =>
    have h1 : vs = [] := List.eq_nil_of_length_eq_zero hl
    have h2 : vs' = [] := List.eq_nil_of_length_eq_zero hl'
    subst h1; subst h2
    exact SeqAt.eq_listAt (e := fun _ => true) (IsL.isList e1) (IsL.isList e2) rfl hu (fun j h1 _ => absurd h1 (by simp)) ⟨keeps_refl s, _, rfl, h⟩
  | cons x l =>
    exact SeqAt.eq_list_lengthsAt (IsL.isList e1) (IsL.isList e2) (by simp [hl, hl']) hu ⟨keeps_refl s, _, rfl, h⟩
theorem Co.in_ints {ns : List Int} {i : Int} {K : Bool → Prop} (h : K (ns.contains i)) : Co G k .In (.int i) (.list (ns.map D.int)) K := fun A s v u ao rv ru => by
  obtain ⟨t, rfl⟩ := rv.intInv
  obtain ⟨b, vs, n, rfl, e2, r2⟩ := ru.listInv
  have e : ns.any (· == i) = ns.contains i := by
    rw [Bool.eq_iff_iff]; simp
  exact in_list_ints (IsL.isList e2) (rep_intsAre r2) ⟨keeps_refl s, _, rfl, by rw [e]; exact h⟩

theorem gives_find4 (x y : PySem.Str) (i j : Int) (t u v w : Tok) : Gives (Builtin.«str.find» ⟨[.str x t, .str y u, .int i v, .int j w], []⟩) (.int (match Builtin.Str.occurrences x y (fromIndex x.length i) (min (fromIndex x.length j) x.length) 1 with | k :: _ => (k : Int) | [] => -1)) := by
  show Gives (match Builtin.Str.occurrences x y (fromIndex x.length i) (min (fromIndex x.length j) x.length) 1 with | k :: _ => retInt k | [] => (do rule "str.find.not-found"; retInt (-1))) _
  cases Builtin.Str.occurrences x y (fromIndex x.length i) (min (fromIndex x.length j) x.length) 1 with
  | nil => exact .rule (.of_eq rfl)
  | cons k _ => exact .of_eq rfl
theorem Ca.find {x y : List Nat} {i j : Nat} {K : D → Prop} (hj : j ≤ x.length) (h : K (.int (match Builtin.Str.occurrences (S x) (S y) i j 1 with | k :: _ => (k : Int) | [] => -1))) : Ca G k (.builtin "str.find") [.str x, .str y, .int i, .int j] K := fun A s vs _ _ _ rs => by
  obtain ⟨v1, v2, v3, v4, rfl, r1, r2, r3, r4⟩ := rs.inv4
  obtain ⟨t1, rfl⟩ := r1.strInv
  obtain ⟨t2, rfl⟩ := r2.strInv
  obtain ⟨t3, rfl⟩ := r3.intInv
  obtain ⟨t4, rfl⟩ := r4.intInv
  have e1 : fromIndex (S x).length (i : Int) = i := by unfold fromIndex; omega
  have e2 : Min.min (fromIndex (S x).length (j : Int)) (S x).length = j := by unfold fromIndex; simp only [Str.length, List.size_toArray]; omega
  have g := gives_find4 (S x) (S y) i j t1 t2 t3 t4
  rw [e1, e2] at g
  exact up (call_gives F.slot_str_find (typeIs_str _ _ _) F.entry_str_find (F.args_str_find_4 _ _ _ _) g ⟨ke_tok s _, _, h, .int⟩)
end
end Mine
end
section
set_option linter.unusedVariables false
namespace Mine
open PySem PyProof.Rows PySem.W

theorem forIn_steps {β : Type} (f : Nat → β → Sem (ForInStep β)) (st : Nat → β) : ∀ n k, (∀ i, k ≤ i → i < k + n → f i (st i) = pure (.yield (st (i + 1)))) → forIn (List.range' k n) (st k) f = pure (st (k + n))
  | 0, k, _ => by simp
  | n + 1, k, h => by
    rw [List.range'_succ, List.forIn_cons, h k (Nat.le_refl _) (by omega)]
    show forIn (List.range' (k + 1) n) (st (k + 1)) f = _
    rw [forIn_steps f st n (k + 1) fun i h1 h2 => h i (by omega) (by omega)]
    congr 2; omega

theorem latin1_run (id : String) (bs : List UInt8) (hb : bs.length ≤ sizeLine) : Builtin._codecs.runDecoder id Builtin._codecs.latin1Decoder none true bs.toArray 0 [] = pure ((bs.map (·.toNat)).toArray, bs.length) := by
  unfold Builtin._codecs.runDecoder
  simp only [KPc.range_list]
  rw [show bs.toArray.size = bs.length from by simp]
  refine Eq.trans (congrArg (fun t => t >>= _) (forIn_steps _ (fun i => (i, ((bs.take i).map (·.toNat)).toArray, ({} : Builtin._codecs.Faults))) bs.length 0 ?_)) ?_
  · intro i h1 h2
    have hi : i < bs.length := by omega
    have hs : ¬ (((bs.take i).map (·.toNat)).toArray.size > sizeLine) := by simp; omega
    have hp : ¬ (i ≥ bs.length) := by omega
    simp only [if_neg hs, if_neg hp]
    show pure (ForInStep.yield (i + 1, ((bs.take i).map (·.toNat)).toArray ++ [(bs.toArray.getD i 0).toNat].toArray, _)) = _
    congr 3
    rw [List.take_add_one, List.map_append]
    simp [List.getElem?_eq_getElem hi]
  · simp

namespace Dec
open Builtin
set_option maxRecDepth 100000
theorem road_eq {id : String} {b : Array UInt8} : _codecs.decodeRoad id b (PySem.Str.ofString "latin1") none [] = (_codecs.runDecoder id _codecs.latin1Decoder none true b 0 [] >>= fun r => mkStr ⟨r.1⟩) := by kernel_rfl
theorem meets_text {t t1 t2 : Tok} {d : PySem.Str} {bs : List UInt8} (hb : bs.length ≤ sizeLine) :
    Meets («_codecs.decode.text» ⟨[.bytes bs.toArray t, .str (PySem.Str.ofString "latin1") t1, .none, .str d t2], []⟩) (fun _ R s => R (.ok (.ret (.str (S (bs.map (·.toNat))) s.toks))) { s with toks := s.toks + 1 }) := by
  refine .of_wp fun prog w A R s h => ?_
  show wpAny _ _ (Bytes.bytesLike _ (.bytes bs.toArray t) >>= fun r => _) _ _ s
  refine wpAny_bind (wpAny_of_eq KBd.like_eq ?_)
  refine wpAny_bind (wpAny_of_eq KBd.held_eq ?_)
  show wpAny _ _ (_codecs.decodeRoad _ bs.toArray (PySem.Str.ofString "latin1") none [] >>= fun v => _) _ _ s
  rw [road_eq, latin1_run _ bs hb]
  refine wpAny_bind (wpAny_bind (wpAny_pure ?_))
  exact wpAny_mkStr (wpAny_pure ⟨_, rfl, h⟩) (by simp [PySem.Str.length]; exact hb)
theorem entry_eq {c : UInt8} {cs : List UInt8} {t u : Tok} : «bytes.decode» ⟨[.bytes (c :: cs).toArray t, .str (PySem.Str.ofString "latin1") u], []⟩ = (mkStr (PySem.Str.ofString "utf-8") >>= fun _ => mkStr (PySem.Str.ofString "latin1") >>= fun e => mkStr (PySem.Str.ofString "bytes.decode") >>= fun d =>
    call (.builtin "_codecs.decode.text") [.bytes (c :: cs).toArray t, e, .none, d] >>= fun v => ret v) := by kernel_rfl
theorem meets_decode {c : UInt8} {cs : List UInt8} {t u : Tok} (hb : (c :: cs).length ≤ sizeLine) :
    Meets («bytes.decode» ⟨[.bytes (c :: cs).toArray t, .str (PySem.Str.ofString "latin1") u], []⟩) (fun _ R s => ∀ t' k, R (.ok (.ret (.str (S ((c :: cs).map (·.toNat))) t'))) { s with toks := k }) := by
  refine .of_wp fun prog w A R s h => ?_
  rw [entry_eq]
  refine wpAny_bind (wpAny_mkStr ?_ (by decide))
  refine wpAny_bind (wpAny_mkStr ?_ (by decide))
  refine wpAny_bind (wpAny_mkStr ?_ (by decide))
  exact wpAny_bind (call_function_meets KBd.kind_text KBd.plain_text KBd.entry_text (KBd.args_text _ _ _ _) (meets_text hb) (wpAny_pure ⟨_, rfl, h _ _⟩))
end Dec

section
variable {G : Gx} {k : Nat} {sc : Scope} {ρ : Rho}
theorem Ca.decode {bs : List UInt8} {e : List Nat} {K : D → Prop} (he : S e = PySem.Str.ofString "latin1") (hne : bs ≠ []) (hb : bs.length ≤ sizeLine) (h : K (.str (bs.map (·.toNat)))) : Ca G k (.builtin "bytes.decode") [.bytes bs, .str e] K := fun A s vs _ _ _ rs => by
  obtain ⟨v1, v2, rfl, r1, r2⟩ := rs.inv2
  obtain ⟨t2, rfl⟩ := r2.strInv
  rw [he]
  cases r1
  cases bs with
  | nil => exact absurd rfl hne
  | cons c cs =>
    exact up (call_meets FB.slot_bytes_decode (typeIs_bytes _ _ _) FB.entry_bytes_decode (by unfold argsOk; kernel_rfl) (Dec.meets_decode hb) fun t' kk => ⟨ke_tok s _, _, h, .str⟩)

theorem Ev.methb {o : Expr} {name : Str} {apos pos : Pos} {args : List Expr} {id : String} {K : D → Prop} (slot : Slot "bytes" name id) (ty : typeOf (.builtin id) = pure (.type "method_descriptor"))
    (h : Ev G k sc ρ o fun x => ∃ t, x = .bytes t ∧ EvL G k sc ρ args fun ds => Ca G k (.builtin id) (.bytes t :: ds) K)
    (hbase : ∀ env, attributeBase o name env (eval o env) = eval o env := by intro _; kernel_rfl) (hline : (apos.endLine == pos.line) = true := by kernel_rfl) (hlen : args.length < 29 := by decide) (hne : ∀ env, starEach args env ≠ [] := by with_unfolding_all (intro _ h; cases h))
    (hst : ∀ env, (starEach args env).all (fun x => !x.1) = true := by intro _; kernel_rfl) :
    Ev G k sc ρ (.Call (.Attribute o name apos) args [] pos) K := fun A env s ao c => by
  refine wpAny_Call_method_lateS (hbase env) ?_ hline (wpAny_mono (h A env s ao c) (fun ov s₁ q => ?_) fun _ _ e => e)
  · rw [(back_any pos _ (hst env)).2]
    show (true && true && decide (args.length + 0 + 0 < 30)) = true
    simp; omega
  obtain ⟨k1, d, ⟨t, rfl, he⟩, r⟩ := q
  cases r
  refine ⟨"bytes", id, FB.plainAttrs_bytes, slot, ty, typeIs_bytes _ _ _, (fun _ e => nomatch e), ?_⟩
  refine Calls.callWith_builtin (back_any pos _ (hst env)).1 (args_wp he ao (c.kp k1) (hne env) fun vs s₂ ds k2 hds rs => ?_)
  exact wp_kp (keeps_trans k1 k2) (hds A s₂ _ ao (c.kp (keeps_trans k1 k2)).w (c.kp (keeps_trans k1 k2)).tk (.cons .bytes rs))

/-- text.replace(' ', '_'): two texts written in the call -/
theorem Ev.replace {o : Expr} {y z : Str} {n₁ n₂ : Nat} {p₁ p₂ apos pos : Pos} {K : D → Prop} (hyz : (y == z) = false)
    (h : Ev G k sc ρ o fun x => ∃ t, x = .str t ∧ t.length + (t.length + 1) * z.length ≤ 16777216 ∧ K (.str (Txt.replace (S t) y z).cps.toList))
    (hbase : ∀ env, attributeBase o "replace" env (eval o env) = eval o env := by intro _; kernel_rfl) (hline : (apos.endLine == pos.line) = true := by kernel_rfl) :
    Ev G k sc ρ (.Call (.Attribute o "replace" apos) [.Constant (.str y) n₁ p₁, .Constant (.str z) n₂ p₂] [] pos) K := fun A env s ao c => by
  refine wpAny_Call_method_lateS (hbase env) rfl hline (wpAny_mono (h A env s ao c) (fun ov s₁ q => ?_) fun _ _ e => e)
  obtain ⟨k1, d, ⟨t, rfl, hb, hK⟩, r⟩ := q
  obtain ⟨u, rfl⟩ := r.strInv
  have htk := (c.kp k1).tk
  refine ⟨"str", "str.replace", F.plainAttrs_str, F.slot_str_replace, F.type_str_replace, typeIs_str _ _ _, (fun _ e => nomatch e), ?_⟩
  refine Calls.callWith_builtin rfl (Calls.evalArgs_plain (Calls.spliced_cons (Calls.Constant_str (k := n₁) (pos := p₁) (Calls.spliced_cons (Calls.Constant_str (k := n₂) (pos := p₂) (Calls.spliced_nil ?_))))))
  refine wp_kp (s₁ := { s₁ with toks := s₁.toks + 1 + 1 }) (keeps_trans k1 ⟨ke_tok s₁ _, by show s₁.toks ≤ s₁.toks + 1 + 1; omega⟩) (up (SC.replace (by show s₁.toks ≠ 0; omega) (by show s₁.toks + 1 ≠ 0; omega) (by show s₁.toks ≠ s₁.toks + 1; omega) hyz (by simpa [PySem.Str.length] using hb) fun t' kk => ⟨⟨_, _, rfl, fun _ _ e => e⟩, _, hK, ?_⟩))
  exact .str

theorem CaF.splitlines {x : List Nat} {K : D → Prop} (hx : x.length ≤ sizeLine) (hc : lineCuts (S x) = [(0, x.length)]) (h : K (.list [.str x])) : CaF G k (.builtin "str.splitlines") [.str x] K := fun A s vs _ _ _ rs => by
  obtain ⟨v1, rfl, r1⟩ := rs.inv1
  obtain ⟨t, rfl⟩ := r1.strInv
  have hl : (S x).length = x.length := by simp [PySem.Str.length]
  refine up (call_meets F.slot_str_splitlines (typeIs_str _ _ _) F.entry_str_splitlines (F.args_str_splitlines_1 _) (meets_str_splitlines (S x) t (by rw [hl]; exact hx) (by rw [hc, sizeLine_eq]; simp)) ?_)
  rw [hc, hl]
  simp only [beq_self_eq_true, if_true]
  exact ⟨ke_push s _ _, ⟨_, h, .list (vs := [.str (S x) t]) (n := 0) (Heap.get?_push_size _ rfl) (.cons .str .nil)⟩, fresh_size⟩
end
end Mine
end
section
set_option linter.unusedVariables false
namespace Mine
open PySem PyProof.Rows PySem.W

theorem tableLookup_wp {prog : Program} {w : World} {A : Around} {E : Value → Shared → Prop} {s : Shared} {a : Addr} {items : Array Value} {c : Nat} {y : PySem.Str} {u : Tok} {Q : Builtin.Str.Mapped → Shared → Prop} (hl : s.heap.IsList a items) (hc : c < 2 ^ 63) (hx : items[c]? = some (.str y u))
    (h : Q (.text y) { s with toks := s.toks + 1 }) : wpAny (model prog w) A (Builtin.Str.tableLookup (.ref a) c) Q E s := by
  unfold Builtin.Str.tableLookup
  refine wpAny_bind (wpAny_attempt (wpAny_bind (wpAny_mkInt ?_)))
  refine wpAny_getItem_list (s := { s with toks := s.toks + 1 }) hl (by omega) (by omega) (by simpa using hx) ?_
  show wpAny _ _ (asInt? (.str y u) >>= fun r => _) _ _ _
  refine wpAny_bind (wpAny_of_eq (a := none) rfl ?_)
  refine wpAny_bind (wpAny_of_eq (a := some y) rfl ?_)
  exact wpAny_pure h

/-- the texts of pieces, the last first -/
def glue (pieces : List PySem.Str) : List Nat := pieces.reverse.flatMap fun p => p.cps.toList
theorem glue_cons (p : PySem.Str) (l : List PySem.Str) : glue (p :: l) = glue l ++ p.cps.toList := by simp [glue]
theorem glue_fold : ∀ (l : List PySem.Str) (acc : Array Nat), (l.foldl (fun acc p => acc ++ p.cps) acc).toList = acc.toList ++ l.flatMap fun p => p.cps.toList
  | [], acc => by simp
  | p :: l, acc => by rw [List.foldl_cons, glue_fold l]; simp

theorem translate_wp {prog : Program} {w : World} {A : Around} {E : Value → Shared → Prop} {s : Shared} {a : Addr} {items : Array Value} {xs : List Nat} {tab : Nat → List Nat} {t : Tok} {Q : Fin → Shared → Prop} (hl : s.heap.IsList a items)
    (hne : xs ≠ []) (hx : ∀ c ∈ xs, c < 256 ∧ (∃ u, items[c]? = some (.str (S (tab c)) u)) ∧ (tab c).length ≤ 3) (hsz : 3 * xs.length ≤ sizeLine)
    (h : ∀ k, Q (.done (.ret (.str (S (xs.flatMap tab)) k))) { s with toks := k + 1 }) :
    wpAny (model prog w) A (Builtin.«str.translate» ⟨[.str (S xs) t, .ref a], []⟩) Q E s := by
  have hlen : ∀ l : List Nat, (∀ c ∈ l, (tab c).length ≤ 3) → (l.flatMap tab).length ≤ 3 * l.length := by
    intro l
    induction l with
    | nil => intro _; simp
    | cons c r ih =>
      intro hh
      have h1 := ih fun d hd => hh d (.tail _ hd)
      have h2 := hh c (.head _)
      simp only [List.flatMap_cons, List.length_append, List.length_cons]
      omega
  show wpAny _ _ (if ((S xs).length == 0) = true then _ else _) _ _ _
  rw [if_neg (by cases xs with | nil => exact absurd rfl hne | cons c l => simp [PySem.Str.length])]
  refine wpAny_bind ?_
  refine forIn_array_ _ (fun rest (b : List PySem.Str × Nat × Bool × List (Nat × Option Nat) × Bool) s' => ∃ done k, xs = done ++ rest ∧ glue b.1 = done.flatMap tab ∧ b.2.1 = (done.flatMap tab).length ∧ (∀ c o, b.2.2.2.1.lookup c = some o → ∃ d, o = some d ∧ tab c = [d]) ∧ b.2.2.2.2 = false ∧ s' = { s with toks := k }) _ ?turn ?fin _ _ ?start
  case start => exact ⟨[], s.toks, by simp, rfl, rfl, (fun c o e => by simp at e), rfl, rfl⟩
  case fin =>
    rintro ⟨pieces, total, fast, known, afterDrop⟩ s' ⟨done, k, e1, e2, e3, e4, e5, rfl⟩
    dsimp only at e1 e2 e3 ⊢
    rw [List.append_nil] at e1
    subst e1
    have hd : (xs.flatMap tab).length ≤ 3 * xs.length := hlen xs fun d hd => (hx d hd).2.2
    rw [if_neg (by unfold Builtin.Str.tooLong; simp; omega)]
    have e : (⟨pieces.reverse.foldl (fun acc p => acc ++ p.cps) #[]⟩ : PySem.Str) = S (xs.flatMap tab) := by
      apply Str.ext'
      show pieces.reverse.foldl (fun acc p => acc ++ p.cps) #[] = (xs.flatMap tab).toArray
      rw [← e2]
      apply Array.ext'
      rw [glue_fold]
      simp [glue]
    rw [e]
    unfold retStr
    exact wpAny_bind (wpAny_mkStr (wpAny_pure (h _)) (by simp only [PySem.Str.length, List.size_toArray]; omega))
  case turn =>
    rintro c rest ⟨pieces, total, fast, known, afterDrop⟩ s' ⟨done, k, e1, e2, e3, e4, e5, rfl⟩
    dsimp only at e1 e2 e3 e4 e5
    subst e5
    have hcx := hx c (by rw [e1]; simp)
    obtain ⟨hc, ⟨u, hu⟩, h3⟩ := hcx
    have hd : (done.flatMap tab).length ≤ 3 * done.length := hlen done fun d hd => (hx d (by rw [e1]; simp [hd])).2.2
    have hxs : xs.length = done.length + (rest.length + 1) := by rw [e1]; simp
    have htl : ¬ (Builtin.Str.tooLong total = true) := by
      unfold Builtin.Str.tooLong; simp; omega
    have key : ∀ (p : PySem.Str) (k' : Nat) (fast' : Bool) (known' : List (Nat × Option Nat)), p.cps.toList = tab c → (∀ c o, known'.lookup c = some o → ∃ d, o = some d ∧ tab c = [d]) →
        ∃ done k, xs = done ++ rest ∧ glue (p :: pieces) = done.flatMap tab ∧ total + p.length = (done.flatMap tab).length ∧ (∀ c o, known'.lookup c = some o → ∃ d, o = some d ∧ tab c = [d]) ∧ false = false ∧ ({ s with toks := k' } : Shared) = { s with toks := k } := by
      intro p k' fast' known' hp hk
      refine ⟨done ++ [c], k', by rw [e1]; simp, ?_, ?_, hk, rfl, rfl⟩
      · rw [glue_cons, e2, hp]; simp
      · have : p.length = (tab c).length := by rw [← hp]; simp [PySem.Str.length]
        simp [e3, this]
    dsimp only
    rw [if_neg htl]
    cases fast with
    | false =>
      simp only [if_false, Bool.false_eq_true]
      refine wpAny_bind (tableLookup_wp (s := { s with toks := k }) hl (by omega) hu ?_)
      exact wpAny_pure (key _ _ false known rfl e4)
    | true =>
      simp only [if_true]
      cases hk : known.lookup c with
      | some o =>
        obtain ⟨d, rfl, hd2⟩ := e4 c o hk
        exact wpAny_bind (wpAny_pure (wpAny_pure (key ⟨#[d]⟩ k true known (by rw [hd2]) e4)))
      | none =>
        refine wpAny_bind (tableLookup_wp (s := { s with toks := k }) hl (by omega) hu ?_)
        dsimp only
        by_cases h1 : ((S (tab c)).length == 1 && (S (tab c)).cps.all fun x => decide (x < 128)) = true
        · simp only [h1, if_true]
          have hlen1 : (tab c).length = 1 := by simp [PySem.Str.length] at h1; exact h1.1
          obtain ⟨d, hd2⟩ : ∃ d, tab c = [d] := List.length_eq_one_iff.mp hlen1
          have hg : (S (tab c)).cps[0]? = some d := by simp [hd2]
          rw [hg]
          refine wpAny_bind (wpAny_pure ?_)
          refine wpAny_pure (key ⟨#[d]⟩ (k + 1) true ((c, some d) :: known) (by rw [hd2]) fun c' o' h' => ?_)
          rw [List.lookup_cons] at h'
          by_cases hcc : (c' == c) = true
          · simp only [hcc] at h'
            cases h'
            rw [beq_iff_eq.mp hcc]
            exact ⟨d, rfl, hd2⟩
          · simp only [hcc] at h'
            exact e4 c' o' h'
        · simp only [h1, if_false, Bool.false_eq_true]
          refine wpAny_bind (wpAny_pure ?_)
          refine wpAny_bind (wpAny_rule ?_)
          refine wpAny_bind (tableLookup_wp (s := { s with toks := k + 1 }) hl (by omega) hu ?_)
          exact wpAny_pure (key _ _ false known rfl e4)

section
variable {G : Gx} {k : Nat}
theorem Ca.translate {xs : List Nat} {tabs : List (List Nat)} {K : D → Prop} (hx : ∀ c ∈ xs, c < 256 ∧ c < tabs.length ∧ (tabs.getD c []).length ≤ 3) (hsz : 3 * xs.length ≤ sizeLine) (h : K (.str (xs.flatMap fun c => tabs.getD c []))) :
    Ca G k (.builtin "str.translate") [.str xs, .list (tabs.map D.str)] K := fun A s vs _ _ _ rs => by
  obtain ⟨v1, v2, rfl, r1, r2⟩ := rs.inv2
  obtain ⟨t, rfl⟩ := r1.strInv
  obtain ⟨b, vs, n, rfl, e2, r2⟩ := r2.listInv
  refine up (wpAny_call_entry F.slot_str_translate (typeIs_str _ _ _) F.entry_str_translate ?_ (F.args_str_translate_2 _ _))
  by_cases hne : xs = []
  · subst hne
    show wpAny _ _ (do rule "str.translate.empty"; ret (.str (S []) t)) _ _ _
    exact wpAny_bind (wpAny_rule (wpAny_pure ⟨_, rfl, ⟨s.heap, s.toks, rfl, fun _ _ e => e⟩, _, h, .str⟩))
  · refine translate_wp (IsL.isList e2) hne (fun c hc => ⟨(hx c hc).1, ?_, (hx c hc).2.2⟩) hsz fun kk => ⟨_, rfl, ke_tok s _, _, h, .str⟩
    have hlt := (hx c hc).2.1
    obtain ⟨v, hv, r⟩ := r2.get (i := c) (d := .str (tabs.getD c [])) (by simp [List.getElem?_eq_getElem hlt])
    obtain ⟨u, rfl⟩ := r.strInv
    exact ⟨u, by simpa using hv⟩
end
end Mine
end
section
set_option linter.unusedVariables false
namespace Mine
open PySem PyProof.Rows

/-! loops' ground: iterators -/

def itemsOf : D → Option (List D)
  | .list ds => some ds
  | .tup ds => some ds
  | .str t => some (t.map fun c => .str [c])
  | .rng n => some ((List.range n).map fun (i : Nat) => .int i)
  | _ => none

/-- an iterator over ds, made behind s -/
structure ItOk (G : Gx) (s s₂ : Shared) (src : Value) (I : Addr) (fp : List Addr) (ds : List D) (P : Nat → Value → Prop) (St : Nat → Heap → Prop) : Prop where
  W : ∀ A : Around, A.handled = none → Walks G.prog G.w A I fp [I] ds.length P St
  st : St 0 s₂.heap
  k : Kk s s₂
  new : s.heap.get? I = none
  there : I < s₂.heap.objs.size
  fp : ∀ b ∈ fp, b = I ∨ ∃ o, s₂.heap.get? b = some o ∧ ∃ xs n, o.data = .seq xs n ∧ src = .ref b
  val : ∀ i v, P i v → ∃ d, ds[i]? = some d ∧ Rep s.heap v d
  iter : ∀ i h, St i h → ∃ o vs, h.get? I = some o ∧ o.data = .fields vs ∧ (o.cls == .type "range") = false
theorem pyIter_ok {G : Gx} {A : Around} {s : Shared} {v : Value} {x : D} {ds : List D} (r : Rep s.heap v x) (hi : itemsOf x = some ds) (hsz : ds.length ≤ sizeLine) :
    wpAny (M G) A (pyIter v) (fun it s₂ => ∃ I fp P St, it = .ref I ∧ ItOk G s s₂ v I fp ds P St) No s := by
  cases x with
  | list es =>
    cases hi
    obtain ⟨a, vs, n, rfl, e1, r1⟩ := r.listInv
    have hlt := Heap.lt_size e1
    have hl := r1.length
    refine wpAny_pyIter_list (IsL.isList e1) ⟨_, [s.heap.objs.size, a], fun i v => vs.toArray[i]? = some v, fun i h => h.IsListIter s.heap.objs.size a i ∧ h.IsList a vs.toArray, rfl, ?_⟩
    refine ⟨fun A' hA => ?_, ⟨⟨_, Heap.get?_push_size _ rfl, rfl, rfl⟩, IsL.isList (IsL.push e1 _)⟩, ⟨ke_push s _ _, Nat.le_refl _⟩, get_size _, by rw [Heap.size_push]; exact Nat.lt_succ_self _, ?_, fun i v h => ?_, fun i h st => ?_⟩
    · have := Walks.list (prog := G.prog) (w := G.w) hA s.heap.objs.size a (Nat.ne_of_lt hlt) vs.toArray
      have hz : vs.toArray.size = ds.length := by rw [List.size_toArray]; exact hl
      rw [hz] at this
      exact this
    · intro b hb
      simp only [List.mem_cons, List.not_mem_nil, or_false] at hb
      rcases hb with rfl | rfl
      · exact .inl rfl
      · exact .inr ⟨_, Heap.get?_push_of_some _ e1, _, _, rfl, rfl⟩
    · have hlt : i < ds.length := by
        have := (List.getElem?_eq_some_iff.mp (by simpa using h : vs[i]? = some v)).1
        omega
      obtain ⟨v', hv', rv⟩ := r1.get (List.getElem?_eq_getElem hlt)
      have : v = v' := by
        have h' : vs[i]? = some v := by simpa using h
        rw [hv'] at h'; exact (Option.some.inj h').symm
      exact ⟨_, List.getElem?_eq_getElem hlt, this ▸ rv⟩
    · obtain ⟨o, ho, hc, hd⟩ := st.1; exact ⟨o, _, ho, hd, by rw [hc]; decide⟩
  | tup es =>
    cases hi
    obtain ⟨a, vs, n, rfl, e1, r1⟩ := r.tupInv
    have hlt := Heap.lt_size e1
    have hl := r1.length
    refine wpAny_pyIter_tuple (items := vs.toArray) ⟨_, e1, rfl, _, rfl⟩ ⟨_, [s.heap.objs.size, a], fun i v => vs.toArray[i]? = some v, fun i h => h.IsTupleIter s.heap.objs.size a i ∧ h.IsTuple a vs.toArray, rfl, ?_⟩
    refine ⟨fun A' hA => ?_, ⟨⟨_, Heap.get?_push_size _ rfl, rfl, rfl⟩, ⟨_, Heap.get?_push_of_some _ e1, rfl, _, rfl⟩⟩, ⟨ke_push s _ _, Nat.le_refl _⟩, get_size _, by rw [Heap.size_push]; exact Nat.lt_succ_self _, ?_, fun i v h => ?_, fun i h st => ?_⟩
    · have := Walks.tuple (prog := G.prog) (w := G.w) hA s.heap.objs.size a (Nat.ne_of_lt hlt) vs.toArray
      have hz : vs.toArray.size = ds.length := by rw [List.size_toArray]; exact hl
      rw [hz] at this
      exact this
    · intro b hb
      simp only [List.mem_cons, List.not_mem_nil, or_false] at hb
      rcases hb with rfl | rfl
      · exact .inl rfl
      · exact .inr ⟨_, Heap.get?_push_of_some _ e1, _, _, rfl, rfl⟩
    · have hlt : i < ds.length := by
        have := (List.getElem?_eq_some_iff.mp (by simpa using h : vs[i]? = some v)).1
        omega
      obtain ⟨v', hv', rv⟩ := r1.get (List.getElem?_eq_getElem hlt)
      have : v = v' := by
        have h' : vs[i]? = some v := by simpa using h
        rw [hv'] at h'; exact (Option.some.inj h').symm
      exact ⟨_, List.getElem?_eq_getElem hlt, this ▸ rv⟩
    · obtain ⟨o, ho, hc, hd⟩ := st.1; exact ⟨o, _, ho, hd, by rw [hc]; decide⟩
  | str t =>
    cases hi
    obtain ⟨u, rfl⟩ := r.strInv
    have fin : ∀ (ty : String) (o : Obj) (hty : (Value.type ty == .type "range") = false) (hW : ∀ A' : Around, A'.handled = none → Walks G.prog G.w A' s.heap.objs.size [s.heap.objs.size] [s.heap.objs.size] (S t).cps.size (SignAt (S t)) fun i h => h.IsStrIter s.heap.objs.size ty (S t) u i) (hst : (s.heap.push o).IsStrIter s.heap.objs.size ty (S t) u 0),
        ∃ I fp P St, Value.ref s.heap.objs.size = .ref I ∧ ItOk G s { s with heap := s.heap.push o } (.str (S t) u) I fp (t.map fun c => .str [c]) P St := by
      intro ty o hty hW hst
      refine ⟨_, [s.heap.objs.size], SignAt (S t), fun i h => h.IsStrIter s.heap.objs.size ty (S t) u i, rfl, ?_⟩
      refine ⟨fun A' hA => ?_, hst, ⟨ke_push s _ _, Nat.le_refl _⟩, get_size _, by rw [Heap.size_push]; exact Nat.lt_succ_self _, ?_, fun i v h => ?_, fun i h st => ?_⟩
      · have := hW A' hA
        simpa using this
      · intro b hb
        simp only [List.mem_cons, List.not_mem_nil, or_false] at hb
        exact .inl hb
      · obtain ⟨c, u', hc, rfl⟩ := h
        exact ⟨.str [c], by simp at hc; simp [hc], .str (s := [c])⟩
      · obtain ⟨o, ho, hc, hd⟩ := st; exact ⟨o, _, ho, hd, by rw [hc]; exact hty⟩
    cases ha : (S t).cps.all (· < 128)
    · exact wpAny_pyIter_wide ha (fin _ _ (by decide) (fun A' hA => Walks.strWide hA _ (S t) u) ⟨_, Heap.get?_push_size _ rfl, rfl, rfl⟩)
    · exact wpAny_pyIter_ascii ha (fin _ _ (by decide) (fun A' hA => Walks.strAscii hA _ (S t) u) ⟨_, Heap.get?_push_size _ rfl, rfl, rfl⟩)
  | rng n =>
    cases hi
    cases r with
    | rng e1 =>
      rename_i a t1 t2 t3
      have hn : n ≤ sizeLine := by simpa using hsz
      have e := sizeLine_eq
      have hsize : Builtin.Range.rangeSize 0 (n : Int) 1 = n := by rw [rangeSize_one]; split <;> omega
      have hs : Builtin.Range.small 0 (n : Int) 1 = true := by
        unfold Builtin.Range.small
        rw [hsize]
        rw [if_pos (by decide : (1 : Int) > 0)]
        have f : ∀ i : Int, 0 ≤ i → i ≤ 16777216 → Builtin.Range.rangeFitsLong i = true := fun i h1 h2 => by
          unfold Builtin.Range.rangeFitsLong
          rw [Bool.and_eq_true, decide_eq_true_eq, decide_eq_true_eq]
          omega
        rw [f 0 (by omega) (by omega), f n (by omega) (by omega), f 1 (by omega) (by omega), f (n + (1 - 1)) (by omega) (by omega)]
        simp
      refine wpAny_pyIter_range (a := 0) (b := n) (c := 1) (t := t1) (u := t2) (v := t3) e1 hs
        ⟨_, [s.heap.objs.size], fun i v => i < n ∧ ∃ t, v = .int (0 + i * 1) t, fun i h => IsRangeIter h s.heap.objs.size (0 + (i : Nat) * 1) ((n : Int) - (i : Nat)) 1, rfl, ?_⟩
      refine ⟨fun A' hA => ?_, ?_, ⟨ke_push s _ _, Nat.le_refl _⟩, get_size _, by rw [Heap.size_push]; exact Nat.lt_succ_self _, ?_, fun i v h => ?_, fun i h st => ?_⟩
      · have W := Walks.range (prog := G.prog) (w := G.w) hA s.heap.objs.size 0 1 n
        have hn2 : ((List.range n).map fun (i : Nat) => D.int i).length = n := by simp
        rw [hn2]
        exact ⟨W.sub, W.frame, fun i s Q E hi st hQ => W.item i s Q E hi st fun v h' tk hP => hQ v h' tk ⟨hi, hP⟩, W.done, W.self⟩
      · rw [hsize]
        have := Heap.get?_push_size s.heap (o := { cls := .type "range_iterator", data := .fields #[rawInt 0, rawInt (n : Int), rawInt 1] }) rfl
        simpa using this
      · intro b hb
        simp only [List.mem_cons, List.not_mem_nil, or_false] at hb
        exact .inl hb
      · obtain ⟨hi, t, rfl⟩ := h
        refine ⟨.int i, by simp [hi], ?_⟩
        rw [show (0 + (i : Int) * 1) = (i : Int) from by omega]
        exact .int
      · exact ⟨_, _, st, rfl, by show (Value.type "range_iterator" == .type "range") = false; decide⟩
  | none => cases hi
  | bool b => cases hi
  | int b => cases hi
  | bytes b => cases hi
  | raw b => cases hi

/-! comprehensions -/
/-- data without a list in them -/
inductive NoL : D → Prop where
  | none : NoL .none
  | bool {b : Bool} : NoL (.bool b)
  | int {i : Int} : NoL (.int i)
  | str {s : List Nat} : NoL (.str s)
  | bytes {b : List UInt8} : NoL (.bytes b)
  | raw {v : Value} : NoL (.raw v)
  | tup {ds : List D} : (∀ d ∈ ds, NoL d) → NoL (.tup ds)
abbrev Kt (h h' : Heap) : Prop := ∀ b vs n, h.get? b = some (tupObj vs n) → h'.get? b = some (tupObj vs n)
mutual
theorem Rep.kt {h h' : Heap} (k : Kt h h') {v : Value} {d : D} : Rep h v d → NoL d → Rep h' v d
  | .none, _ => .none
  | .bool, _ => .bool
  | .int, _ => .int
  | .str, _ => .str
  | .bytes, _ => .bytes
  | .list _ _, n => nomatch n
  | .tup e r, n => .tup (k _ _ _ e) (RepAll.kt k r (match n with | .tup f => f))
  | .rng _, n => nomatch n
  | .raw, _ => .raw
theorem RepAll.kt {h h' : Heap} (k : Kt h h') {vs : List Value} {ds : List D} : RepAll h vs ds → (∀ d ∈ ds, NoL d) → RepAll h' vs ds
  | .nil, _ => .nil
  | .cons a b, n => .cons (Rep.kt k a (n _ (.head _))) (RepAll.kt k b fun d hd => n d (.tail _ hd))
end

def relabelS (scope sc : Scope) : Scope :=
  { scope with names := scope.names.map fun (n, k) => if (k == .free && sc.kind == .function && sc.names.lookup n == some .cell) then (n, .cell) else (n, k) }
theorem relabel_eq {scope sc : Scope} {env : Env} (h : env.scope = sc) : relabel scope env = relabelS scope sc := by
  subst h; rfl
def inner (scope : Scope) (ρ : Rho) : Rho := fun y => if scope.names.lookup y = some .free then ρ y else none
/-- every free name of the block stands for something -/
def freeOk (scope sc : Scope) (ρ : Rho) : Bool := scope.names.all fun y => y.2 != .free || ((sc.names.lookup y.1 == some .cell || sc.names.lookup y.1 == some .free) && (ρ y.1).isSome && !(y.1 == ("__classdict__" : Str)))

def CompP (G : Gx) (k : Nat) (sc : Scope) (ρ : Rho) (x : Str) (ifs : List Expr) (elt : Expr) : List D → List D → (List D → Prop) → Prop
  | [], acc, K => K acc
  | d :: ds, acc, K =>
    match ifs with
    | [] => Ev G k sc (set ρ x d) elt fun y => NoL y ∧ CompP G k sc ρ x ifs elt ds (acc ++ [y]) K
    | [t] => Tr G k sc (set ρ x d) t fun b => if b then Ev G k sc (set ρ x d) elt fun y => NoL y ∧ CompP G k sc ρ x ifs elt ds (acc ++ [y]) K else CompP G k sc ρ x ifs elt ds acc K
    | _ => False

def clOf (scope : Scope) (cells : List (Str × Addr)) : List (Str × Addr) := scope.names.foldl (fun cs y => if y.2 == .free then (y.1, (cells.lookup y.1).getD 0) :: cs else cs) []
theorem clos_eq {scope : Scope} {env : Env} (h : ∀ y ∈ scope.names, y.2 = .free → ∃ c, env.cells.lookup y.1 = some c) : closureFor scope env = pure (clOf scope env.cells) := by
  unfold closureFor clOf
  have gen : ∀ (names : List (Str × NameKind)) (acc : List (Str × Addr)), (∀ y ∈ names, y.2 = .free → ∃ c, env.cells.lookup y.1 = some c) →
      (forIn names acc fun (x : Str × NameKind) (__s : List (Str × Addr)) => match x with
        | (name, kind) => if (kind == NameKind.free) = true then (do let __do_lift ← cellOf env name; pure (ForInStep.yield ((name, __do_lift) :: __s))) else pure (ForInStep.yield __s) : Sem (List (Str × Addr))) =
        pure (names.foldl (fun cs y => if y.2 == .free then (y.1, (env.cells.lookup y.1).getD 0) :: cs else cs) acc) := by
    intro names
    induction names with
    | nil => intro acc _; rfl
    | cons y r ih =>
      intro acc hy
      obtain ⟨n, kd⟩ := y
      rw [List.forIn_cons, List.foldl_cons]
      by_cases hk : (kd == NameKind.free) = true
      · obtain ⟨c, hc⟩ := hy (n, kd) (.head _) (beq_iff_eq.mp hk)
        have e : cellOf env n = pure c := by unfold cellOf; rw [hc]
        simp only [hk, if_true, e, hc, Option.getD_some]
        exact ih _ fun z hz => hy z (.tail _ hz)
      · simp only [hk, if_false, Bool.false_eq_true]
        exact ih _ fun z hz => hy z (.tail _ hz)
  refine Eq.trans (congrArg (fun t => t >>= _) (gen scope.names [] h)) ?_
  rfl
end Mine
end
section
set_option linter.unusedVariables false
namespace Mine
open PySem PyProof.Rows

theorem clOf_lookup {cells : List (Str × Addr)} {y : Str} : ∀ (names : List (Str × NameKind)) (acc : List (Str × Addr)), (acc.lookup y = some ((cells.lookup y).getD 0) ∨ (y, NameKind.free) ∈ names) →
    (names.foldl (fun cs z => if z.2 == .free then (z.1, (cells.lookup z.1).getD 0) :: cs else cs) acc).lookup y = some ((cells.lookup y).getD 0)
  | [], acc, h => by
    rcases h with h | h
    · exact h
    · cases h
  | (n, kd) :: r, acc, h => by
    rw [List.foldl_cons]
    refine clOf_lookup r _ ?_
    by_cases hk : (kd == NameKind.free) = true
    · simp only [hk, if_true]
      by_cases hn : (y == n) = true
      · left
        rw [List.lookup_cons]
        simp only [hn]
        rw [beq_iff_eq.mp hn]
      · rcases h with h | h
        · left; rw [List.lookup_cons]; simp only [hn]; exact h
        · right
          rcases List.mem_cons.mp h with e | e
          · exact absurd (by rw [(Prod.mk.inj e).1]; exact beq_self_eq_true _) hn
          · exact e
    · simp only [hk, if_false, Bool.false_eq_true]
      rcases h with h | h
      · exact .inl h
      · rcases List.mem_cons.mp h with e | e
        · exact absurd (by rw [← (Prod.mk.inj e).2]; rfl) hk
        · exact .inr e

theorem lookup_mem {α : Type} : ∀ {l : List (Str × α)} {n : Str} {c : α}, l.lookup n = some c → (n, c) ∈ l := fun h => mem_of_lookup h

/-- what a free name of a comprehension stands for, seen from within -/
theorem inner_loc {G : Gx} {sc scope : Scope} {ρ : Rho} {env : Env} {s : Shared} {C : Addr} (c : Cx G sc env ρ s) (hf : freeOk scope sc ρ = true) :
    (∀ y ∈ scope.names, y.2 = .free → ∃ c, env.cells.lookup y.1 = some c) ∧
    ∀ y d, inner scope ρ y = some d → ∃ v, Rep s.heap v d ∧ Loc (compEnvC scope (clOf scope env.cells) C env) s.heap y v := by
  have hall := List.all_eq_true.mp hf
  have one : ∀ y, (y, NameKind.free) ∈ scope.names → ∀ d, ρ y = some d → ∃ v, Rep s.heap v d ∧ ∃ cc, env.cells.lookup y = some cc ∧ s.heap.IsCell cc (some v) := by
    intro y hy d hd
    have h1 := hall _ hy
    simp only [bne_self_eq_false, Bool.false_or, Bool.and_eq_true, Bool.or_eq_true, beq_iff_eq] at h1
    obtain ⟨v, r, l⟩ := c.vars y d hd
    have hkind : env.kindOf y = sc.names.lookup y := by show env.scope.names.lookup y = _; rw [c.scope]
    cases l with
    | loc m a b e => rw [hkind] at a; rcases h1.1.1 with q | q <;> (rw [q] at a; cases a)
    | cell cc a b e => exact ⟨v, r, cc, b, e⟩
    | free cc a n b e => exact ⟨v, r, cc, b, e⟩
  refine ⟨fun y hy hk => ?_, fun y d hd => ?_⟩
  · obtain ⟨n, kd⟩ := y
    dsimp only at hk
    subst hk
    have h1 := hall _ hy
    simp only [bne_self_eq_false, Bool.false_or, Bool.and_eq_true, Bool.or_eq_true, beq_iff_eq] at h1
    obtain ⟨d, hd⟩ := Option.isSome_iff_exists.mp h1.1.2
    obtain ⟨v, _, cc, hc, _⟩ := one n hy d hd
    exact ⟨cc, hc⟩
  · unfold inner at hd
    split at hd
    · rename_i hl
      have hy := lookup_mem hl
      obtain ⟨v, r, cc, hc, hcell⟩ := one y hy d hd
      refine ⟨v, r, ?_⟩
      have hlk : (clOf scope env.cells).lookup y = some cc := by
        have := clOf_lookup (cells := env.cells) scope.names [] (.inr hy)
        rw [hc] at this
        exact this
      have h1 := hall _ hy
      simp only [bne_self_eq_false, Bool.false_or, Bool.and_eq_true, Bool.or_eq_true, beq_iff_eq, Bool.not_eq_true'] at h1
      by_cases hcl : sc.names.lookup y = some .cell
      · refine .cell cc ?_ hlk hcell
        show (relabel scope env).names.lookup y = _
        rw [relabel_eq c.scope]
        unfold relabelS
        have gen : ∀ names : List (Str × NameKind), names.lookup y = some .free → (names.map fun (x : Str × NameKind) => if (x.2 == NameKind.free && sc.kind == .function && sc.names.lookup x.1 == some .cell) then (x.1, NameKind.cell) else (x.1, x.2)).lookup y = some .cell := by
          intro names
          induction names with
          | nil => intro h; cases h
          | cons z r ih =>
            obtain ⟨n, kd⟩ := z
            intro h
            rw [List.lookup_cons] at h
            rw [List.map_cons]
            by_cases hn : (y == n) = true
            · simp only [hn] at h
              cases h
              have hyn := beq_iff_eq.mp hn
              subst hyn
              simp [hcl, c.fn]
            · simp only [hn] at h
              have := ih h
              split
              · rw [List.lookup_cons]; simp only [hn]; exact this
              · rw [List.lookup_cons]; simp only [hn]; exact this
        exact gen _ hl
      · refine .free cc ?_ h1.2 hlk hcell
        show (relabel scope env).names.lookup y = _
        rw [relabel_eq c.scope]
        unfold relabelS
        have gen : ∀ names : List (Str × NameKind), names.lookup y = some .free → (names.map fun (x : Str × NameKind) => if (x.2 == NameKind.free && sc.kind == .function && sc.names.lookup x.1 == some .cell) then (x.1, NameKind.cell) else (x.1, x.2)).lookup y = some .free := by
          intro names
          induction names with
          | nil => intro h; cases h
          | cons z r ih =>
            obtain ⟨n, kd⟩ := z
            intro h
            rw [List.lookup_cons] at h
            rw [List.map_cons]
            by_cases hn : (y == n) = true
            · simp only [hn] at h
              cases h
              have hyn := beq_iff_eq.mp hn
              subst hyn
              simp [hcl]
            · simp only [hn] at h
              have := ih h
              split
              · rw [List.lookup_cons]; simp only [hn]; exact this
              · rw [List.lookup_cons]; simp only [hn]; exact this
        exact gen _ hl
    · cases hd
end Mine
end
section
set_option linter.unusedVariables false
namespace Mine
open PySem PyProof.Rows

theorem CompP.tests {G : Gx} {k : Nat} {sc : Scope} {ρ : Rho} {x : Str} {ifs : List Expr} {elt : Expr} {d : D} {ds acc : List D} {K : List D → Prop} (h : CompP G k sc ρ x ifs elt (d :: ds) acc K)
    {A : Around} {env : Env} {s : Shared} (a : AOk k A) (c : Cx G sc env (set ρ x d) s) :
    wpAny (M G) A (forIn ifs true fun c r => if r = true then do let ok ← isTrue c env (eval c env); pure (ForInStep.yield ok) else pure (ForInStep.yield r))
      (fun ok s' => Kk s s' ∧ if ok = true then (Ev G k sc (set ρ x d) elt fun y => NoL y ∧ CompP G k sc ρ x ifs elt ds (acc ++ [y]) K) else CompP G k sc ρ x ifs elt ds acc K) No s := by
  unfold CompP at h
  match ifs, h with
  | [], h => exact wpAny_tests_nil ⟨keeps_refl s, by rw [if_pos rfl]; exact h⟩
  | [t], h => exact wpAny_tests_one (wpAny_mono (h A env s a c) (fun b s' q => ⟨q.1, by cases b <;> exact q.2⟩) fun _ _ e => e)
  | _ :: _ :: _, h => exact h.elim

theorem comp_core {G : Gx} {k : Nat} {sc scope : Scope} {ρ : Rho} {env : Env} {A : Around} {s₁ s₂ : Shared} {I : Addr} {fp : List Addr} {ds : List D} {P : Nat → Value → Prop} {St : Nat → Heap → Prop} {x : Str} {px pos : Pos} {iter elt : Expr} {ifs : List Expr} {K : List D → Prop}
    {RR : Value → Addr → Result → Shared → Prop} (ao : AOk k A) (c : Cx G sc env ρ s₁) {src : Value} (io : ItOk G s₁ s₂ src I fp ds P St) (hsz : ds.length ≤ sizeLine) (hf : freeOk scope sc ρ = true) (hcell : ∀ y ∈ scope.names, y.2 ≠ .cell) (hkind : scope.kind = .function)
    (hx : scope.names.lookup x = some .local) (hp : CompP G k (relabelS scope sc) (inner scope ρ) x ifs elt ds [] K)
    (hRR : ∀ Da C s' m' ys, Kk s₁ s' → s₁.heap.get? C = none → s₁.heap.get? Da = none → Da ≠ C → s'.heap.Ns C m' → K ys → Rep s'.heap (.ref Da) (.list ys) → RR (.ref Da) C (.ok .next) s') :
    wpAny (M G) A (newList []) (fun acc s₃ => wpAny (M G) A (newFunctionEnv scope env.globals (clOf scope env.cells) [] env.qual none .none (some env)) (fun cenv s₄ =>
      codeAny (M G) A (.compStart (.ListComp elt [⟨.Name x px, iter, ifs, 0⟩] scope pos) 0 (.ref I) acc { cenv with scope := relabel scope env }) (RR acc cenv.locals) s₄) No s₃) No s₂ := by
  refine wpAny_newObj_type (wpAny_newFunctionEnv hcell (by intro y hy; simp at hy) (fun h₁ hns₁ hsb₁ => ?_) hkind)
  dsimp only at hns₁ hsb₁ ⊢
  generalize hH2 : s₂.heap.push { cls := .type "list", dict := none, data := .seq ([] : List Value).toArray } = H2 at hns₁ hsb₁ ⊢
  have W := io.W A ao.1
  have hC : H2.objs.size = s₂.heap.objs.size + 1 := by rw [← hH2, Heap.size_push]
  have hDC : s₂.heap.objs.size ≠ H2.objs.size := by rw [hC]; exact Nat.ne_of_lt (Nat.lt_succ_self _)
  have old : ∀ b o, s₂.heap.get? b = some o → h₁.get? b = some o := fun b o e => hsb₁.extBut b o (Nat.ne_of_lt (by rw [hC]; exact Nat.lt_succ_of_lt (Heap.lt_size e))) (Heap.get?_push_of_some _ (hH2 ▸ Heap.get?_push_of_some _ e))
  have hacc : h₁.get? s₂.heap.objs.size = some (listObj [] 0) := hsb₁.extBut _ _ hDC (Heap.get?_push_of_some _ (hH2 ▸ Heap.get?_push_size _ rfl))
  have hI2 := io.there
  have hDI : s₂.heap.objs.size ≠ I := Nat.ne_of_gt hI2
  have hCI : H2.objs.size ≠ I := Nat.ne_of_gt (by rw [hC]; exact Nat.lt_succ_of_lt hI2)
  have hfpD : s₂.heap.objs.size ∉ fp := fun hm => by
    rcases io.fp _ hm with e | ⟨o, ho, _⟩
    · exact hDI e
    · exact Nat.lt_irrefl _ (Heap.lt_size ho)
  have hfpC : H2.objs.size ∉ fp := fun hm => by
    rcases io.fp _ hm with e | ⟨o, ho, _⟩
    · exact hCI e
    · have := Heap.lt_size ho; rw [hC] at this; exact absurd this (Nat.not_lt.mpr (Nat.le_succ _))
  have fresh : ∀ a, s₂.heap.objs.size ≤ a → s₁.heap.get? a = none := fun a ha => by
    cases e : s₁.heap.get? a with
    | none => rfl
    | some o' => exact absurd (Heap.lt_size (keeps_kp io.k _ _ e)) (Nat.not_lt.mpr ha)
  have hst₁ : St 0 h₁ := W.frame _ _ _ io.st fun b _ o e => old b o e
  have hCs : s₁.heap.get? H2.objs.size = none := fresh _ (by rw [hC]; exact Nat.le_succ _)
  have hDs : s₁.heap.get? s₂.heap.objs.size = none := fresh _ (Nat.le_refl _)
  have hloc := inner_loc (C := H2.objs.size) c hf
  obtain ⟨hh, tk₂, e2, hk2⟩ := io.k.1
  have htk2 := io.k.2
  have loop : codeAny (M G) A (.compLoop (.ListComp elt [⟨.Name x px, iter, ifs, 0⟩] scope pos) 0 (.ref I) (.ref s₂.heap.objs.size) (compEnvC scope (clOf scope env.cells) H2.objs.size env))
        (RR (.ref s₂.heap.objs.size) H2.objs.size) { s₂ with heap := h₁, toks := s₂.toks + ([] : List (Str × Value)).length } := by
    refine codeAny_compLoop_tests (fun n s' => ∃ h' tk m' ys nn acc i, s' = { s₁ with heap := h', toks := tk } ∧ s₁.toks ≤ tk ∧ i ≤ ds.length ∧ n = ds.length + 1 - i ∧ St i h' ∧ h'.get? s₂.heap.objs.size = some (listObj ys nn) ∧ RepAll h' ys acc ∧ (∀ d ∈ acc, NoL d) ∧
      acc.length ≤ i ∧ h'.Ns H2.objs.size m' ∧ CompP G k (relabelS scope sc) (inner scope ρ) x ifs elt (ds.drop i) acc K ∧ Kp s₁.heap h') ?_ (ds.length + 1) ?_
    · rintro n s' ⟨h', tk, m', ys, nn, acc, i, rfl, htk, hi, rfl, hst, hD, hr, hno, hal, hn, hcp, hkp⟩
      by_cases hlt : i < ds.length
      · refine wpAny_with_toks (n := s₁.toks) htk (W.item i _ _ _ hlt hst fun v h₂ tk₂ hP hst₂ hk₂ htk₂ => ?_)
        obtain ⟨d, hd, rv⟩ := io.val i v hP
        have hdrop : ds.drop i = d :: ds.drop (i + 1) := by
          rw [List.drop_eq_getElem_cons hlt]
          rw [List.getElem?_eq_getElem hlt] at hd
          rw [Option.some.inj hd]
        rw [hdrop] at hcp
        have hn₂ : h₂.Ns H2.objs.size m' := hn.at' fun o e => hk₂ _ o (by simp; exact hCI) e
        refine wpAny_assign_Name (wpAny_storeName_local (lookup_relabel_local hx) hn₂ (fun h₃ hn₃ hs₃ => ?_) (by simp [compEnvC, relabel, hkind]))
        have kp3 : Kp s₁.heap h₃ := fun b o e => hs₃.extBut b o (fun hb => by rw [show b = H2.objs.size from hb, hCs] at e; cases e) (hk₂ b o (fun hb => by rw [List.mem_singleton.mp hb, io.new] at e; cases e) (hkp b o e))
        have hcx : Cx G (relabelS scope sc) (compEnvC scope (clOf scope env.cells) H2.objs.size env) (set (inner scope ρ) x d) { s₁ with heap := h₃, toks := tk₂ + 1 } := by
          refine ⟨relabel_eq c.scope, c.glo, c.bui, hkind, G.keeps kp3 c.w, Nat.succ_pos _, fun y e he => ?_⟩
          unfold Mine.set at he
          split at he
          · rename_i hyx
            subst hyx
            cases he
            exact ⟨v, rv.kp kp3, .loc _ (lookup_relabel_local hx) hn₃ (by simp)⟩
          · obtain ⟨v', r', l'⟩ := hloc.2 y e he
            exact ⟨v', r'.kp kp3, l'.kp kp3⟩
        have hD₃ : h₃.get? s₂.heap.objs.size = some (listObj ys nn) := hs₃.extBut _ _ hDC (hk₂ _ _ (by simp; exact hDI) hD)
        have kt3 : Kt h' h₃ := fun b vs n e => hs₃.extBut b _ (fun hb => by
          obtain ⟨o, es, ep, ho, hdd, _⟩ := hn
          rw [show b = H2.objs.size from hb, ho] at e; cases e; cases hdd) (hk₂ b _ (fun hb => by
          obtain ⟨o, vs', ho, hdd, _⟩ := io.iter _ _ hst
          rw [List.mem_singleton.mp hb, ho] at e; cases e; cases hdd) e)
        have hr₃ := hr.kt kt3 hno
        have hst₃ : St (i + 1) h₃ := W.frame _ _ _ hst₂ fun b hb o e => hs₃.extBut b o (fun h => hfpC ((show b = H2.objs.size from h) ▸ hb)) e
        refine wpAny_mono (CompP.tests hcp ao hcx) (fun ok s₄ q => ?_) fun _ _ e => e.elim
        obtain ⟨k4, q⟩ := q
        obtain ⟨⟨h₄, tk₄, rfl, e4⟩, ht4⟩ := k4
        have kp4 : Kp s₁.heap h₄ := fun b o e => e4 b o (kp3 b o e)
        have ht4' : s₁.toks ≤ tk₄ := Nat.le_trans (Nat.le_succ_of_le htk₂) ht4
        have hst₄ : St (i + 1) h₄ := W.frame _ _ _ hst₃ fun b _ o e => e4 b o e
        cases ok with
        | false =>
          simp only [Bool.false_eq_true, if_false] at q ⊢
          exact ⟨ds.length + 1 - (i + 1), by omega, h₄, tk₄, (fun y => if y = x then some v else m' y), ys, nn, acc, i + 1, rfl, ht4', hlt, rfl, hst₄, e4 _ _ hD₃, hr₃.kp e4, hno, by omega, hn₃.keeps e4, q, kp4⟩
        | true =>
          simp only [if_true] at q ⊢
          have hcx4 : Cx G (relabelS scope sc) (compEnvC scope (clOf scope env.cells) H2.objs.size env) (set (inner scope ρ) x d) { s₁ with heap := h₄, toks := tk₄ } := hcx.kp ⟨⟨h₄, tk₄, rfl, e4⟩, ht4⟩
          refine wpAny_mono (q A _ _ ao hcx4) (fun vy s₅ q => ?_) fun _ _ e => e.elim
          obtain ⟨k5, dy, ⟨hny, hcp'⟩, ry⟩ := q
          obtain ⟨⟨h₅, tk₅, rfl, e5⟩, ht5⟩ := k5
          have hD₅ : h₅.get? s₂.heap.objs.size = some (listObj ys nn) := e5 _ _ (e4 _ _ hD₃)
          have hys : ys.length = acc.length := hr.length
          refine wpAny_list_append_plain (items := ys.toArray) (hsz := by rw [List.size_toArray, hys]; omega) ⟨nn, hD₅⟩ fun h₆ hl₆ hs₆ => ?_
          obtain ⟨nn', hl₆⟩ := hl₆
          have kt6 : Kt h₅ h₆ := fun b vs n e => hs₆.extBut b _ (fun hb => by rw [hb, hD₅] at e; exact absurd (congrArg PySem.Obj.cls (Option.some.inj e)) (show ¬ (Value.type "list" = Value.type "tuple") by simp)) e
          refine ⟨ds.length + 1 - (i + 1), by omega, h₆, tk₅, (fun y => if y = x then some v else m' y), ys ++ [vy], nn', acc ++ [dy], i + 1, rfl, Nat.le_trans ht4' ht5, hlt, rfl, ?_, ?_, ?_, ?_, ?_, ?_, hcp', ?_⟩
          · exact W.frame _ _ _ hst₄ fun b hb o e => hs₆.extBut b o (fun h => hfpD (h ▸ hb)) (e5 b o e)
          · rw [hl₆]; simp [listObj]
          · exact (((hr₃.kp e4).kp e5).append (.cons ry .nil)).kt kt6 fun d' hd' => by
              rcases List.mem_append.mp hd' with q | q
              · exact hno d' q
              · simp at q; subst q; exact hny
          · intro d' hd'
            rcases List.mem_append.mp hd' with q | q
            · exact hno d' q
            · simp at q; subst q; exact hny
          · simp; omega
          · exact ((hn₃.keeps e4).keeps e5).sameBut hs₆ (Ne.symm hDC)
          · exact fun b o e => hs₆.extBut b o (fun hb => by rw [hb, hDs] at e; cases e) (e5 b o (kp4 b o e))
      · have hin : i = ds.length := by omega
        subst hin
        refine wpAny_with_toks (n := s₁.toks) htk (W.done _ _ _ hst fun h₂ tk₂ hk₂ htk₂ => ?_)
        rw [List.drop_length] at hcp
        have kt2 : Kt h' h₂ := fun b vs n e => hk₂ b _ (fun hb => by
          obtain ⟨o, vs', ho, hdd, _⟩ := io.iter _ _ hst
          rw [List.mem_singleton.mp hb, ho] at e; cases e; cases hdd) e
        refine hRR _ _ _ m' acc ⟨⟨h₂, tk₂, rfl, fun b o e => hk₂ b o (fun hb => by rw [List.mem_singleton.mp hb, io.new] at e; cases e) (hkp b o e)⟩, htk₂⟩ hCs hDs hDC (hn.at' fun o e => hk₂ _ o (by simp; exact hCI) e) (by unfold CompP at hcp; exact hcp)
          (.list (hk₂ _ _ (by simp; exact hDI) hD) (hr.kt kt2 hno))
    · refine ⟨h₁, s₂.toks, _, [], 0, [], 0, ?_, htk2, Nat.zero_le _, rfl, hst₁, hacc, .nil, (fun d hd => nomatch hd), Nat.le_refl _, hns₁, by simpa using hp, fun b o e => old b o (keeps_kp io.k _ _ e)⟩
      rw [e2]; rfl
  exact codeAny_compStart_list loop (W.self 0 _ _ _ hst₁ loop)
end Mine
end
section
set_option linter.unusedVariables false
namespace Mine
open PySem PyProof.Rows

/-! statements -/
structure Fm (env : Env) (h₀ h : Heap) : Prop where
  keep : Kp h₀ h
  loc : ∃ m, h.Ns env.locals m
  lnew : h₀.get? env.locals = none
  cells : ∀ n c, env.cells.lookup n = some c → (∃ v, h.IsCell c v) ∧ h₀.get? c = none
  apart : ∀ n n' c, env.cells.lookup n = some c → env.cells.lookup n' = some c → n = n'
  kinds : ∀ n, env.kindOf n = some .cell → ∃ c, env.cells.lookup n = some c

/-- all but the frame's own stands -/
def Kb (env : Env) (s s' : Shared) : Prop :=
  (∃ h' tk, s' = { s with heap := h', toks := tk }) ∧ s.toks ≤ s'.toks ∧ ∀ b o, s.heap.get? b = some o → b ≠ env.locals → (∀ n, env.cells.lookup n ≠ some b) → s'.heap.get? b = some o
theorem Kb.refl (env : Env) (s : Shared) : Kb env s s := ⟨⟨s.heap, s.toks, rfl⟩, Nat.le_refl _, fun _ _ e _ _ => e⟩
theorem Kb.trans {env : Env} {s s' s'' : Shared} (x : Kb env s s') (y : Kb env s' s'') : Kb env s s'' := by
  obtain ⟨⟨h', tk, rfl⟩, a2, a3⟩ := x
  obtain ⟨⟨h'', tk', rfl⟩, b2, b3⟩ := y
  exact ⟨⟨h'', tk', rfl⟩, Nat.le_trans a2 b2, fun b o e h1 h2 => b3 b o (a3 b o e h1 h2) h1 h2⟩
theorem Kk.kb {env : Env} {s s' : Shared} (x : Kk s s') : Kb env s s' := by
  obtain ⟨⟨h', tk, rfl, e⟩, l⟩ := x
  exact ⟨⟨h', tk, rfl⟩, l, fun b o q _ _ => e b o q⟩
theorem Fm.kp {env : Env} {h₀ h h' : Heap} (f : Fm env h₀ h) (k : Kp h h') : Fm env h₀ h' :=
  ⟨fun b o e => k b o (f.keep b o e), let ⟨m, hm⟩ := f.loc; ⟨m, hm.keeps k⟩, f.lnew, fun n c e => let ⟨⟨v, hv⟩, r⟩ := f.cells n c e; ⟨⟨v, hv.keeps k⟩, r⟩, f.apart, f.kinds⟩

theorem ns_eq {h : Heap} {a : Addr} {m m' : Str → Option Value} (x : h.Ns a m) (y : h.Ns a m') (n : Str) : m n = m' n := by
  obtain ⟨o, es, ep, ho, hd, _, hf⟩ := x
  obtain ⟨o', es', ep', ho', hd', _, hf'⟩ := y
  rw [ho] at ho'; cases ho'
  rw [hd] at hd'; cases hd'
  rw [← hf n, ← hf' n]
theorem ns_not_seq {h : Heap} {a b : Addr} {m : Str → Option Value} {o : Obj} (x : h.Ns a m) (e : h.get? b = some o) (hs : Obj.seqLike o = true) : b ≠ a := fun q => by
  obtain ⟨o', es, ep, ho, hd, _⟩ := x
  rw [q, ho] at e; cases e
  unfold Obj.seqLike at hs; rw [hd] at hs; cases hs
theorem cell_not_seq {h : Heap} {a b : Addr} {v : Option Value} {o : Obj} (x : h.IsCell a v) (e : h.get? b = some o) (hs : Obj.seqLike o = true) : b ≠ a := fun q => by
  obtain ⟨o', ho, hd⟩ := x
  rw [q, ho] at e; cases e
  unfold Obj.seqLike at hs; rw [hd] at hs; cases hs
theorem ns_not_cell {h : Heap} {a c : Addr} {m : Str → Option Value} {v : Option Value} (x : h.Ns a m) (y : h.IsCell c v) : c ≠ a := fun q => by
  obtain ⟨o, es, ep, ho, hd, _⟩ := x
  obtain ⟨o', ho', hd'⟩ := y
  rw [q, ho] at ho'; cases ho'
  rw [hd] at hd'; cases hd'

/-- a name is stored -/
theorem store_ok {G : Gx} {sc : Scope} {ρ : Rho} {env : Env} {h₀ : Heap} {A : Around} {s : Shared} {x : Str} {v : Value} {d : D} (w0 : G.W h₀) (c : Cx G sc env ρ s) (f : Fm env h₀ s.heap) (r : Rep s.heap v d) (hx : sc.names.lookup x = some .local ∨ sc.names.lookup x = some .cell) :
    wpAny (M G) A (storeName env x v) (fun _ s' => Kb env s s' ∧ Fm env h₀ s'.heap ∧ Cx G sc env (set ρ x d) s') No s := by
  have hk : env.scope.kind = .function := by rw [c.scope]; exact c.fn
  have hkind : env.kindOf x = sc.names.lookup x := by show env.scope.names.lookup x = _; rw [c.scope]
  obtain ⟨m, hm⟩ := f.loc
  rcases hx with hx | hx
  · refine wpAny_storeName_local (by rw [hkind]; exact hx) hm (fun h' hn' hs' => ?_) (by rw [hk]; rfl)
    have keep : Kp h₀ h' := fun b o e => hs'.extBut b o (fun q => by rw [q, f.lnew] at e; cases e) (f.keep b o e)
    have ks : Ks s.heap h' := fun b o e hs => hs'.extBut b o (ns_not_seq hm e hs) e
    refine ⟨⟨⟨h', _, rfl⟩, Nat.le_succ _, fun b o e h1 _ => hs'.extBut b o h1 e⟩, ⟨keep, ⟨_, hn'⟩, f.lnew, fun n cc e => ?_, f.apart, f.kinds⟩, ?_⟩
    · obtain ⟨⟨v', hv'⟩, r'⟩ := f.cells n cc e
      exact ⟨⟨v', hv'.sameBut hs' (ns_not_cell hm hv')⟩, r'⟩
    · refine ⟨c.scope, c.glo, c.bui, c.fn, G.keeps keep w0, Nat.succ_pos _, fun y e he => ?_⟩
      unfold Mine.set at he
      split at he
      · rename_i hy
        subst hy
        cases he
        exact ⟨v, r.ks ks, .loc _ (by rw [hkind]; exact hx) hn' (by simp)⟩
      · rename_i hy
        obtain ⟨v', r', l'⟩ := c.vars y e he
        refine ⟨v', r'.ks ks, ?_⟩
        cases l' with
        | loc m' a b e' => exact .loc _ a hn' (by rw [if_neg hy, ← ns_eq b hm]; exact e')
        | cell cc a b e' => exact .cell cc a b (e'.sameBut hs' (ns_not_cell hm e'))
        | free cc a n b e' => exact .free cc a n b (e'.sameBut hs' (ns_not_cell hm e'))
  · obtain ⟨cc, hc⟩ := f.kinds x (by rw [hkind]; exact hx)
    obtain ⟨⟨v0, hv0⟩, hnew⟩ := f.cells x cc hc
    refine wpAny_storeName_cell hk (by rw [hkind]; exact hx) hc hv0 (fun h' hc' hs' => ?_)
    have keep : Kp h₀ h' := fun b o e => hs'.extBut b o (fun q => by rw [q, hnew] at e; cases e) (f.keep b o e)
    have ks : Ks s.heap h' := fun b o e hs => hs'.extBut b o (cell_not_seq hv0 e hs) e
    refine ⟨⟨⟨h', _, rfl⟩, Nat.le_refl _, fun b o e _ h2 => hs'.extBut b o (fun q => h2 x (q ▸ hc)) e⟩, ⟨keep, ⟨m, hm.sameBut hs' (Ne.symm (ns_not_cell hm hv0))⟩, f.lnew, fun n c2 e => ?_, f.apart, f.kinds⟩, ?_⟩
    · obtain ⟨⟨v', hv'⟩, r'⟩ := f.cells n c2 e
      by_cases q : c2 = cc
      · subst q; exact ⟨⟨_, hc'⟩, r'⟩
      · exact ⟨⟨v', hv'.sameBut hs' q⟩, r'⟩
    · refine ⟨c.scope, c.glo, c.bui, c.fn, G.keeps keep w0, c.tk, fun y e he => ?_⟩
      unfold Mine.set at he
      split at he
      · rename_i hy
        subst hy
        cases he
        exact ⟨v, r.ks ks, .cell cc (by rw [hkind]; exact hx) hc hc'⟩
      · rename_i hy
        obtain ⟨v', r', l'⟩ := c.vars y e he
        refine ⟨v', r'.ks ks, ?_⟩
        cases l' with
        | loc m' a b e' => exact .loc m' a (b.sameBut hs' (Ne.symm (ns_not_cell hm hv0))) e'
        | cell c2 a b e' => exact .cell c2 a b (e'.sameBut hs' fun q => hy (f.apart y x cc (q ▸ b) hc))
        | free c2 a n b e' => exact .free c2 a n b (e'.sameBut hs' fun q => hy (f.apart y x cc (q ▸ b) hc))

/-- how a block of statements ends -/
abbrev Xo (G : Gx) (sc : Scope) (env : Env) (h₀ : Heap) (N : Rho → Prop) (Rt : D → Prop) (s : Shared) (f : Flow) (s' : Shared) : Prop :=
  Kb env s s' ∧ Fm env h₀ s'.heap ∧ match f with
    | .next => ∃ ρ', N ρ' ∧ Cx G sc env ρ' s'
    | .ret v => ∃ d, Rt d ∧ Rep s'.heap v d
    | _ => False
def Ex (G : Gx) (k : Nat) (sc : Scope) (ρ : Rho) (ss : List Stmt) (N : Rho → Prop) (Rt : D → Prop) : Prop :=
  ∀ A env h₀ s, AOk k A → G.W h₀ → Cx G sc env ρ s → Fm env h₀ s.heap → wpAny (M G) A (execs ss env) (Xo G sc env h₀ N Rt s) No s
def E1 (G : Gx) (k : Nat) (sc : Scope) (ρ : Rho) (st : Stmt) (N : Rho → Prop) (Rt : D → Prop) : Prop :=
  ∀ A env h₀ s, AOk k A → G.W h₀ → Cx G sc env ρ s → Fm env h₀ s.heap → wpAny (M G) A (exec st env) (Xo G sc env h₀ N Rt s) No s

section
variable {G : Gx} {k : Nat} {sc : Scope} {ρ : Rho} {N : Rho → Prop} {Rt : D → Prop}

theorem Xo.kb {env : Env} {h₀ : Heap} {s s₁ s' : Shared} {f : Flow} (x : Kb env s s₁) (y : Xo G sc env h₀ N Rt s₁ f s') : Xo G sc env h₀ N Rt s f s' := ⟨x.trans y.1, y.2⟩

theorem Ex.nil (h : N ρ) : Ex G k sc ρ [] N Rt := fun A env h₀ s _ _ c f => wpAny_execs_nil ⟨.refl env s, f, ρ, h, c⟩
theorem Ex.cons {st : Stmt} {rest : List Stmt} (h : E1 G k sc ρ st (fun ρ' => Ex G k sc ρ' rest N Rt) Rt) : Ex G k sc ρ (st :: rest) N Rt := fun A env h₀ s ao w0 c f => by
  refine wpAny_execs_cons (wpAny_mono (h A env h₀ s ao w0 c f) (fun fl s₁ q => ?_) fun _ _ e => e)
  obtain ⟨k1, f1, q⟩ := q
  cases fl with
  | next =>
    obtain ⟨ρ', hN, c'⟩ := q
    exact wpAny_mono (hN A env h₀ s₁ ao w0 c' f1) (fun _ _ q => Xo.kb k1 q) fun _ _ e => e
  | ret v => exact ⟨k1, f1, q⟩
  | brk => exact q.elim
  | cont => exact q.elim

theorem E1.ret {e : Expr} {pos : Pos} (h : Ev G k sc ρ e Rt) : E1 G k sc ρ (.Return (some e) pos) N Rt := fun A env h₀ s ao w0 c f =>
  wpAny_Return_some (wpAny_mono (h A env s ao c) (fun v s' q => ⟨q.1.kb, f.kp (keeps_kp q.1), q.2⟩) fun _ _ e => e)

theorem E1.assign {x : Str} {p pos : Pos} {value : Expr} (hx : sc.names.lookup x = some .local ∨ sc.names.lookup x = some .cell) (h : Ev G k sc ρ value fun d => N (set ρ x d))
    (hs : ∀ env, swapsWith value (some (.Name x p)) pos.line env = pure false := by intro _; kernel_rfl) : E1 G k sc ρ (.Assign [.Name x p] value pos) N Rt := fun A env h₀ s ao w0 c f => by
  refine wpAny_Assign_Name (wpAny_mono (h A env s ao c) (fun v s₁ q => ?_) fun _ _ e => e) (hs env)
  obtain ⟨k1, d, hN, r⟩ := q
  refine wpAny_mono (store_ok w0 (c.kp k1) (f.kp (keeps_kp k1)) r hx) (fun _ s₂ q => ?_) fun _ _ e => e
  exact ⟨k1.kb.trans q.1, q.2.1, _, hN, q.2.2⟩

theorem E1.iteS {test : Expr} {body orelse : List Stmt} {pos : Pos} (h : Tr G k sc ρ test fun b => if b then Ex G k sc ρ body N Rt else Ex G k sc ρ orelse N Rt) : E1 G k sc ρ (.If test body orelse pos) N Rt := fun A env h₀ s ao w0 c f => by
  refine wpAny_If (wpAny_mono (h A env s ao c) (fun b s₁ q => ?_) fun _ _ e => e)
  obtain ⟨k1, q⟩ := q
  cases b with
  | false => simp only [Bool.false_eq_true, if_false] at q ⊢; exact wpAny_mono (q A env h₀ s₁ ao w0 (c.kp k1) (f.kp (keeps_kp k1))) (fun _ _ q => Xo.kb k1.kb q) fun _ _ e => e
  | true => simp only [if_true] at q ⊢; exact wpAny_mono (q A env h₀ s₁ ao w0 (c.kp k1) (f.kp (keeps_kp k1))) (fun _ _ q => Xo.kb k1.kb q) fun _ _ e => e

theorem E1.assert {test : Expr} {pos : Pos} (h : Tr G k sc ρ test fun b => b = true ∧ N ρ) : E1 G k sc ρ (.Assert test none pos) N Rt := fun A env h₀ s ao w0 c f =>
  wpAny_Assert_holds (wpAny_mono (h A env s ao c) (fun b s₁ q => ⟨q.2.1, q.1.kb, f.kp (keeps_kp q.1), ρ, q.2.2, c.kp q.1⟩) fun _ _ e => e)

theorem E1.while0 {test : Expr} {body : List Stmt} {pos : Pos} (h : Tr G k sc ρ test fun b => b = false ∧ N ρ) : E1 G k sc ρ (.While test body [] pos) N Rt := fun A env h₀ s ao w0 c f => by
  refine wpAny_While (codeAny_whileLoop (fun n s' => s' = s) (fun n s' e => ?_) 0 rfl)
  subst e
  refine wpAny_mono (h A env s' ao c) (fun b s₁ q => ?_) fun _ _ e => e.elim
  obtain ⟨k1, rfl, hN⟩ := q
  simp only [Bool.false_eq_true, if_false]
  exact wpAny_execs_nil ⟨k1.kb, f.kp (keeps_kp k1), ρ, hN, c.kp k1⟩

theorem E1.aug {x : Str} {p pos : Pos} {op : Operator} {value : Expr} {a b r : Int} (hx : sc.names.lookup x = some .local) (hv : ρ x = some (.int a)) (h : Ev G k sc ρ value fun d => d = .int b ∧ N (set ρ x (.int r)))
    (hop : (op = .Add ∧ r = a + b) ∨ (op = .Sub ∧ r = a - b)) : E1 G k sc ρ (.AugAssign (.Name x p) op value pos) N Rt := fun A env h₀ s ao w0 c f => by
  obtain ⟨v, rv, l⟩ := c.vars x _ hv
  obtain ⟨t, rfl⟩ := rv.intInv
  have hk : env.scope.kind = .function := by rw [c.scope]; exact c.fn
  have hkind : env.kindOf x = sc.names.lookup x := by show env.scope.names.lookup x = _; rw [c.scope]
  refine wpAny_AugAssign_Name ?_
  have load : ∀ Q : Value → Shared → Prop, Q (.int a t) s → wpAny (M G) A (loadName env x) Q No s := fun Q hq => by
    cases l with
    | loc m a b e => exact wpAny_loadName_local hk a b e hq
    | cell c a b e => exact wpAny_loadName_cell hk a b e hq
    | free c a n b e => exact wpAny_loadName_free hk a b e hq n
  refine load _ (wpAny_mono (h A env s ao c) (fun v s₁ q => ?_) fun _ _ e => e)
  obtain ⟨k1, d, ⟨rfl, hN⟩, rv⟩ := q
  obtain ⟨t', rfl⟩ := rv.intInv
  have k2 : ∀ s' : Shared, s' = { s₁ with toks := s₁.toks + 1 } → Kk s₁ s' := fun s' e => by subst e; exact ⟨ke_tok s₁ _, Nat.le_succ _⟩
  have fin : wpAny (M G) A (storeName env x (.int r s₁.toks)) (fun _ => Xo G sc env h₀ N Rt s .next) No { s₁ with toks := s₁.toks + 1 } := by
    have kk := keeps_trans k1 (k2 _ rfl)
    refine wpAny_mono (store_ok w0 (c.kp kk) (f.kp (keeps_kp kk)) .int (.inl hx)) (fun _ s₂ q => ?_) fun _ _ e => e
    exact ⟨kk.kb.trans q.1, q.2.1, _, hN, q.2.2⟩
  rcases hop with ⟨rfl, rfl⟩ | ⟨rfl, rfl⟩
  · exact P.iadd_int fin
  · exact P.isub_int fin
end
end Mine
end
section
set_option linter.unusedVariables false
namespace Mine
open PySem PyProof.Rows

def Lo (G : Gx) (k : Nat) (sc : Scope) (x : Str) (body : List Stmt) (N : Rho → Prop) (Rt : D → Prop) : List D → Rho → Prop
  | [], ρ => N ρ
  | d :: ds, ρ => Ex G k sc (set ρ x d) body (fun ρ' => Lo G k sc x body N Rt ds ρ') Rt


section
variable {G : Gx} {k : Nat} {sc : Scope} {ρ : Rho} {N : Rho → Prop} {Rt : D → Prop}

/-- the state under a change of other things than data and the frame -/
theorem Cx.change {env : Env} {s s' : Shared} (c : Cx G sc env ρ s) (ks : Ks s.heap s'.heap) (hL : ∀ o, s.heap.get? env.locals = some o → s'.heap.get? env.locals = some o) (hC : ∀ n a o, env.cells.lookup n = some a → s.heap.get? a = some o → s'.heap.get? a = some o)
    (w : G.W s'.heap) (tk : 0 < s'.toks) : Cx G sc env ρ s' :=
  ⟨c.scope, c.glo, c.bui, c.fn, w, tk, fun y d e => by
    obtain ⟨v, r, l⟩ := c.vars y d e
    refine ⟨v, r.ks ks, ?_⟩
    cases l with
    | loc m a b e => exact .loc m a (b.at' hL) e
    | cell cc a b e => obtain ⟨o, ho, hd⟩ := e; exact .cell cc a b ⟨o, hC _ _ _ b ho, hd⟩
    | free cc a n b e => obtain ⟨o, ho, hd⟩ := e; exact .free cc a n b ⟨o, hC _ _ _ b ho, hd⟩⟩

theorem E1.for {x : Str} {p pos : Pos} {iter : Expr} {body : List Stmt} (hx : sc.names.lookup x = some .local ∨ sc.names.lookup x = some .cell)
    (h : Ev G k sc ρ iter fun src => ∃ items, itemsOf src = some items ∧ items.length ≤ sizeLine ∧ Lo G k sc x body N Rt items ρ) (hs : ∀ env v, foldedSetIterable iter env v = pure v := by intro _ _; kernel_rfl) :
    E1 G k sc ρ (.For (.Name x p) iter body [] pos) N Rt := fun A env h₀ s ao w0 c f => by
  refine wpAny_For (wpAny_mono (h A env s ao c) (fun v s₁ q => ?_) fun _ _ e => e) (hs env)
  obtain ⟨k1, src, ⟨ds, hi, hsz, hlo⟩, r⟩ := q
  have c1 := c.kp k1
  have f1 := f.kp (keeps_kp k1)
  refine wpAny_mono (pyIter_ok (G := G) (A := A) r hi hsz) (fun it s₂ q => ?_) fun _ _ e => e
  obtain ⟨I, fp, P, St, rfl, io⟩ := q
  have W := io.W A ao.1
  have c2 := c1.kp io.k
  have f2 := f1.kp (keeps_kp io.k)
  have hIL : I ≠ env.locals := fun e => by
    obtain ⟨m, o, es, ep, ho, _⟩ := f1.loc
    have := io.new; rw [e, ho] at this; cases this
  have hIc : ∀ n, env.cells.lookup n ≠ some I := fun n e => by
    obtain ⟨⟨v, o, ho, _⟩, _⟩ := f1.cells n I e
    have := io.new; rw [ho] at this; cases this
  have hI0 : h₀.get? I = none := by
    cases e : h₀.get? I with
    | none => rfl
    | some o => have := io.new; rw [f1.keep _ _ e] at this; cases this
  have hfp : ∀ b ∈ fp, b ≠ env.locals ∧ ∀ n, env.cells.lookup n ≠ some b := fun b hb => by
    rcases io.fp b hb with rfl | ⟨o, ho, xs, n, hd, _⟩
    · exact ⟨hIL, hIc⟩
    · have hsq : Obj.seqLike o = true := by unfold Obj.seqLike; rw [hd]
      obtain ⟨m, hm⟩ := f2.loc
      refine ⟨ns_not_seq hm ho hsq, fun n' e => ?_⟩
      obtain ⟨⟨v, hv⟩, _⟩ := f2.cells n' b e
      exact cell_not_seq hv ho hsq rfl
  refine codeAny_forLoop (fun n s' => ∃ i ρ', Kb env s₁ s' ∧ Cx G sc env ρ' s' ∧ Fm env h₀ s'.heap ∧ St i s'.heap ∧ i ≤ ds.length ∧ n = ds.length + 1 - i ∧ Lo G k sc x body N Rt (ds.drop i) ρ') ?_ (ds.length + 1)
    ⟨0, ρ, io.k.kb, c2, f2, io.st, Nat.zero_le _, rfl, by simpa using hlo⟩
  rintro n s' ⟨i, ρ', kb, c', f', hst, hi', rfl, hl⟩
  -- what a turn of the iterator leaves
  have step : ∀ h₂ tk₂, s'.toks ≤ tk₂ → (∀ b o, b ∉ [I] → s'.heap.get? b = some o → h₂.get? b = some o) → Kb env s₁ { s' with heap := h₂, toks := tk₂ } ∧ Cx G sc env ρ' { s' with heap := h₂, toks := tk₂ } ∧ Fm env h₀ h₂ := by
    intro h₂ tk₂ htk hk
    have hkI : ∀ b o, b ≠ I → s'.heap.get? b = some o → h₂.get? b = some o := fun b o hb e => hk b o (fun q => hb (List.mem_singleton.mp q)) e
    have f3 : Fm env h₀ h₂ := ⟨fun b o e => hkI b o (fun q => by rw [q, hI0] at e; cases e) (f'.keep b o e), (let ⟨m, hm⟩ := f'.loc; ⟨m, hm.at' fun o e => hkI _ o (Ne.symm hIL) e⟩), f'.lnew,
      fun n c e => (let ⟨⟨v, o, ho, hd⟩, r⟩ := f'.cells n c e; ⟨⟨v, o, hkI _ _ (fun q => hIc n (q ▸ e)) ho, hd⟩, r⟩), f'.apart, f'.kinds⟩
    refine ⟨?_, c'.change (fun b o e hsq => hkI b o (fun q => ?_) e) (fun o e => hkI _ o (Ne.symm hIL) e) (fun n a o ha e => hkI _ o (fun q => hIc n (q ▸ ha)) e) (G.keeps f3.keep w0) (Nat.lt_of_lt_of_le c'.tk htk), f3⟩
    · obtain ⟨⟨h', tk', rfl⟩, b2, b3⟩ := kb
      exact ⟨⟨h₂, tk₂, rfl⟩, Nat.le_trans b2 htk, fun b o e h1 h2 => hkI b o (fun q => by rw [q, io.new] at e; cases e) (b3 b o e h1 h2)⟩
    · obtain ⟨o', vs, ho', hd', hc'⟩ := io.iter _ _ hst
      rw [q, ho'] at e; cases e
      unfold Obj.seqLike at hsq; rw [hd'] at hsq
      rw [hc'] at hsq; cases hsq
  by_cases hlt : i < ds.length
  · refine wpAny_with_toks (n := s'.toks) (Nat.le_refl _) (W.item i s' _ _ hlt hst fun v' h₂ tk₂ hP hst₂ hk₂ htk₂ => ?_)
    obtain ⟨kb2, cx2, fm2⟩ := step h₂ tk₂ htk₂ hk₂
    obtain ⟨d, hd, rv⟩ := io.val i v' hP
    have hdrop : ds.drop i = d :: ds.drop (i + 1) := by
      rw [List.drop_eq_getElem_cons hlt]
      rw [List.getElem?_eq_getElem hlt] at hd
      rw [Option.some.inj hd]
    rw [hdrop] at hl
    have ksd : Ks s₁.heap h₂ := fun b o e hsq => kb2.2.2 b o e (let ⟨m, hm⟩ := f1.loc; ns_not_seq hm e hsq) fun n' q => (let ⟨⟨v, hv⟩, _⟩ := f1.cells n' b q; cell_not_seq hv e hsq rfl)
    refine wpAny_assign_Name (wpAny_mono (store_ok w0 cx2 fm2 (rv.ks ksd) hx) (fun _ s₃ q => ?_) fun _ _ e => e.elim)
    obtain ⟨kb3, fm3, cx3⟩ := q
    refine wpAny_mono (hl A env h₀ s₃ ao w0 cx3 fm3) (fun fl s₄ q => ?_) fun _ _ e => e.elim
    obtain ⟨kb4, fm4, q⟩ := q
    have kb34 := kb3.trans kb4
    cases fl with
    | next =>
      obtain ⟨ρ₄, hl4, cx4⟩ := q
      refine ⟨ds.length + 1 - (i + 1), by omega, i + 1, ρ₄, kb2.trans kb34, cx4, fm4, ?_, hlt, rfl, hl4⟩
      exact W.frame _ _ _ hst₂ fun b hb o e => kb34.2.2 b o e (hfp b hb).1 (hfp b hb).2
    | ret v => exact ⟨k1.kb.trans (kb2.trans kb34), fm4, q⟩
    | brk => exact q.elim
    | cont => exact q.elim
  · have hin : i = ds.length := by omega
    subst hin
    rw [List.drop_length] at hl
    refine wpAny_with_toks (n := s'.toks) (Nat.le_refl _) (W.done s' _ _ hst fun h₂ tk₂ hk₂ htk₂ => wpAny_execs_nil ?_)
    obtain ⟨kb2, cx2, fm2⟩ := step h₂ tk₂ htk₂ hk₂
    exact ⟨k1.kb.trans kb2, fm2, ρ', hl, cx2⟩

/-- a list comprehension -/
theorem Ev.comp {x : Str} {px pos : Pos} {elt iter : Expr} {ifs : List Expr} {scope : Scope} {K : D → Prop} (hf : freeOk scope sc ρ = true) (hcell : ∀ y ∈ scope.names, y.2 ≠ .cell) (hkind : scope.kind = .function)
    (hnames : ∀ y ∈ scope.names, y.2 = .local → scope.names.lookup y.1 = some .local) (hx : scope.names.lookup x = some .local)
    (h : Ev G k sc ρ iter fun src => ∃ items, itemsOf src = some items ∧ items.length ≤ sizeLine ∧ CompP G k (relabelS scope sc) (inner scope ρ) x ifs elt items [] fun ys => K (.list ys))
    (hs : ∀ env v, foldedSetIterable iter env v = pure v := by intro _ _; kernel_rfl) : Ev G k sc ρ (.ListComp elt [⟨.Name x px, iter, ifs, 0⟩] scope pos) K := fun A env s ao c => by
  rw [eval_ListComp]
  refine wpAny_comprehension_free (use := none) rfl (hs env) (clos_eq (inner_loc (C := 0) c hf).1) hkind hnames (wpAny_mono (h A env s ao c) (fun v s₁ q => ?_) fun _ _ e => e)
  obtain ⟨k1, src, ⟨ds, hi, hsz, hcp⟩, r⟩ := q
  refine wpAny_mono (pyIter_ok (G := G) (A := A) r hi hsz) (fun it s₂ q => ?_) fun _ _ e => e
  obtain ⟨I, fp, P, St, rfl, io⟩ := q
  refine comp_core (RR := compPost (M G) A No none (Po s K)) ao (c.kp k1) io hsz hf hcell hkind hx hcp fun Da C s' m' ys kk hC hDa hDC hn hK rl => ?_
  refine ⟨m', hn, fun h' hs' => ?_⟩
  have kk' : Kk s₁ { s' with heap := h' } := by
    obtain ⟨⟨hh, tk, rfl, e⟩, l⟩ := kk
    exact ⟨⟨h', tk, rfl, fun b o q => hs'.extBut b o (fun z => by rw [z, hC] at q; cases q) (e b o q)⟩, l⟩
  refine ⟨keeps_trans k1 kk', _, hK, rl.ks fun b o e hsq => hs'.extBut b o (ns_not_seq hn e hsq) e⟩

/-- x = [.. for ..], the store before the block's names are let go -/
theorem E1.assignComp {x y : Str} {px py pos spos : Pos} {elt iter : Expr} {ifs : List Expr} {scope : Scope} (hy : sc.names.lookup y = some .local) (hf : freeOk scope sc ρ = true) (hcell : ∀ y ∈ scope.names, y.2 ≠ .cell) (hkind : scope.kind = .function)
    (hnames : ∀ y ∈ scope.names, y.2 = .local → scope.names.lookup y.1 = some .local) (hx : scope.names.lookup x = some .local)
    (h : Ev G k sc ρ iter fun src => ∃ items, itemsOf src = some items ∧ items.length ≤ sizeLine ∧ CompP G k (relabelS scope sc) (inner scope ρ) x ifs elt items [] fun ys => N (set ρ y (.list ys)))
    (hsw : ∀ env, env.scope = sc → swapsWith (.ListComp elt [⟨.Name x px, iter, ifs, 0⟩] scope pos) (some (.Name y py)) spos.line env = pure true)
    (hs : ∀ env v, foldedSetIterable iter env v = pure v := by intro _ _; kernel_rfl) : E1 G k sc ρ (.Assign [.Name y py] (.ListComp elt [⟨.Name x px, iter, ifs, 0⟩] scope pos) spos) N Rt := fun A env h₀ s ao w0 c f => by
  rw [exec_Assign_Name_used _ _ _ _ (hsw env c.scope)]
  refine wpAny_bind (wpAny_standAt (wpAny_bind ?_))
  show wpAny _ A (do let _ ← comprehension (.ListComp elt [⟨.Name x px, iter, ifs, 0⟩] scope pos) scope env _ (newList []) false (eval iter env) (some (PySem.assign (.Name y py) env))) _ _ s
  refine wpAny_bind (wpAny_mono (wpAny_comprehension_free (use := some (PySem.assign (.Name y py) env)) (Q := fun _ s' => Xo G sc env h₀ N Rt s .next s') rfl (hs env) (clos_eq (inner_loc (C := 0) c hf).1) hkind hnames (wpAny_mono (h A env s ao c) (fun v s₁ q => ?_) fun _ _ e => e))
    (fun _ s' hq => wpAny_pure (wpAny_pure hq)) fun _ _ e => e)
  obtain ⟨k1, src, ⟨ds, hi, hsz, hcp⟩, r⟩ := q
  refine wpAny_mono (pyIter_ok (G := G) (A := A) r hi hsz) (fun it s₂ q => ?_) fun _ _ e => e
  obtain ⟨I, fp, P, St, rfl, io⟩ := q
  have c1 := c.kp k1
  have f1 := f.kp (keeps_kp k1)
  refine comp_core (RR := compPost (M G) A No (some (PySem.assign (.Name y py) env)) (fun _ s' => Xo G sc env h₀ N Rt s .next s')) ao c1 io hsz hf hcell hkind hx hcp fun Da C s' m' ys kk hC hDa hDC hn hK rl => ?_
  have hLC : env.locals ≠ C := fun e => by
    obtain ⟨m, o, es, ep, ho, _⟩ := f1.loc
    rw [e, hC] at ho; cases ho
  have hcC : ∀ n, env.cells.lookup n ≠ some C := fun n e => by
    obtain ⟨⟨v, o, ho, _⟩, _⟩ := f1.cells n C e
    rw [hC] at ho; cases ho
  refine wpAny_assign_Name (wpAny_mono (store_ok w0 (c1.kp kk) (f1.kp (keeps_kp kk)) rl (.inl hy)) (fun _ s₃ q => ?_) fun _ _ e => e)
  obtain ⟨kb3, fm3, cx3⟩ := q
  have hn3 : s₃.heap.Ns C m' := by
    obtain ⟨o, es, ep, ho, r⟩ := hn
    exact ⟨o, es, ep, kb3.2.2 _ _ ho (Ne.symm hLC) hcC, r⟩
  refine ⟨m', hn3, fun h' hs' => ?_⟩
  have h0C : h₀.get? C = none := by
    cases e : h₀.get? C with
    | none => rfl
    | some o => rw [f1.keep _ _ e] at hC; cases hC
  have fm4 : Fm env h₀ h' := ⟨fun b o e => hs'.extBut b o (fun q => by rw [q, h0C] at e; cases e) (fm3.keep b o e), (let ⟨m, hm⟩ := fm3.loc; ⟨m, hm.sameBut hs' hLC⟩), fm3.lnew,
    fun n c e => (let ⟨⟨v, hv⟩, r⟩ := fm3.cells n c e; ⟨⟨v, hv.sameBut hs' fun q => hcC n (q ▸ e)⟩, r⟩), fm3.apart, fm3.kinds⟩
  refine ⟨?_, fm4, _, hK, cx3.change (fun b o e hsq => hs'.extBut b o (ns_not_seq hn3 e hsq) e) (fun o e => hs'.extBut _ o hLC e) (fun n a o ha e => hs'.extBut _ o (fun q => hcC n (q ▸ ha)) e) (G.keeps fm4.keep w0) cx3.tk⟩
  have kb1 : Kb env s s' := k1.kb.trans kk.kb
  obtain ⟨⟨hh, tk, rfl⟩, b2, b3⟩ := kb1.trans kb3
  refine ⟨⟨h', tk, rfl⟩, b2, fun b o e h1 h2 => hs'.extBut b o (fun q => ?_) (b3 b o e h1 h2)⟩
  rw [q] at e
  rw [keeps_kp k1 _ _ e] at hC; cases hC
end
end Mine
end
section
set_option linter.unusedVariables false
namespace Mine
open PySem PyProof.Rows

section
variable {G : Gx} {k : Nat} {sc : Scope} {ρ : Rho} {N : Rho → Prop} {Rt : D → Prop}

def setAll (ρ : Rho) : List (Str × D) → Rho
  | [] => ρ
  | (x, d) :: r => setAll (set ρ x d) r

theorem assign_all {env : Env} {h₀ : Heap} {A : Around} (w0 : G.W h₀) : ∀ (ts : List (Str × (Value → Sem Unit))) (vs : List Value) (ds : List D) (ρ : Rho) (s : Shared),
    (∀ t ∈ ts, (sc.names.lookup t.1 = some .local ∨ sc.names.lookup t.1 = some .cell) ∧ ∀ v s Q, wpAny (M G) A (storeName env t.1 v) Q No s → wpAny (M G) A (t.2 v) Q No s) → ts.length = ds.length → RepAll s.heap vs ds → Cx G sc env ρ s → Fm env h₀ s.heap →
    wpAny (M G) A (assignInOrder (ts.map (·.2)) vs) (fun _ s' => Kb env s s' ∧ Fm env h₀ s'.heap ∧ Cx G sc env (setAll ρ ((ts.map (·.1)).zip ds)) s') No s := by
  intro ts
  induction ts with
  | nil =>
    intro vs ds ρ s _ hl rs c f
    have hd : ds = [] := List.eq_nil_of_length_eq_zero hl.symm
    subst hd
    cases rs
    exact wpAny_pure ⟨.refl env s, f, c⟩
  | cons t ts ih =>
    intro vs ds ρ s ht hl rs c f
    cases rs with
    | nil => simp at hl
    | cons r rs =>
      rename_i v d vs ds
      obtain ⟨hx, hst⟩ := ht t (.head _)
      refine wpAny_bind (wpAny_holding (hst v s _ (wpAny_mono (store_ok w0 c f r hx) (fun _ s₁ q => ?_) fun _ _ e => e)))
      obtain ⟨kb, fm, cx⟩ := q
      have ks : Ks s.heap s₁.heap := fun b o e hsq => kb.2.2 b o e (let ⟨m, hm⟩ := f.loc; ns_not_seq hm e hsq) fun n' q => (let ⟨⟨v, hv⟩, _⟩ := f.cells n' b q; cell_not_seq hv e hsq rfl)
      refine wpAny_mono (ih vs ds _ s₁ (fun t' h' => ht t' (.tail _ h')) (by simpa using hl) (rs.ks ks) cx fm) (fun _ s₂ q => ?_) fun _ _ e => e
      exact ⟨kb.trans q.1, q.2.1, q.2.2⟩

theorem extBut_kp {h h' : Heap} (e : Heap.ExtBut h.objs.size h h') : Kp h h' := fun b o q => e b o (Nat.ne_of_lt (Heap.lt_size q)) q

theorem E1.unpack4 {x₁ x₂ x₃ x₄ : Str} {p₁ p₂ p₃ p₄ tpos pos : Pos} {n : Nat} {value : Expr} (h1 : sc.names.lookup x₁ = some .local) (h2 : sc.names.lookup x₂ = some .local) (h3 : sc.names.lookup x₃ = some .local) (h4 : sc.names.lookup x₄ = some .local)
    (h : Ev G k sc ρ value fun d => ∃ a b c e, d = .tup [a, b, c, e] ∧ N (set (set (set (set ρ x₁ a) x₂ b) x₃ c) x₄ e))
    (hs : ∀ env, swapsWithSole [.Tuple [.Name x₁ p₁, .Name x₂ p₂, .Name x₃ p₃, .Name x₄ p₄] n tpos] value pos.line env = pure false := by intro _; kernel_rfl)
    (hw : ∀ env, swappedStores [.Tuple [.Name x₁ p₁, .Name x₂ p₂, .Name x₃ p₃, .Name x₄ p₄] n tpos] value env = pure none := by intro _; kernel_rfl) :
    E1 G k sc ρ (.Assign [.Tuple [.Name x₁ p₁, .Name x₂ p₂, .Name x₃ p₃, .Name x₄ p₄] n tpos] value pos) N Rt := fun A env h₀ s ao w0 c f => by
  refine Assign_Tuple (wpAny_mono (h A env s ao c) (fun v s₁ q => ?_) fun _ _ e => e) (hs env) (hw env)
  obtain ⟨k1, d, ⟨a, b, c', e, rfl, hN⟩, r⟩ := q
  obtain ⟨t, vs, nn, rfl, e1, r1⟩ := r.tupInv
  have hl := r1.length
  refine assign_Tuple_tuple (items := vs.toArray) ao.1 ⟨_, e1, rfl, _, rfl⟩ (by rw [List.size_toArray, hl]; rfl) rfl fun h' he => ?_
  have kk : Kk s₁ { s₁ with heap := h' } := ⟨⟨h', s₁.toks, rfl, extBut_kp he⟩, Nat.le_refl _⟩
  have kk2 := keeps_trans k1 kk
  have := assign_all (A := A) w0 [(x₁, PySem.assign (.Name x₁ p₁) env), (x₂, PySem.assign (.Name x₂ p₂) env), (x₃, PySem.assign (.Name x₃ p₃) env), (x₄, PySem.assign (.Name x₄ p₄) env)] vs [a, b, c', e] ρ { s₁ with heap := h' }
    (by
      intro t ht
      simp only [List.mem_cons, List.not_mem_nil, or_false] at ht
      rcases ht with rfl | rfl | rfl | rfl
      · exact ⟨.inl h1, fun v s Q q => wpAny_assign_Name q⟩
      · exact ⟨.inl h2, fun v s Q q => wpAny_assign_Name q⟩
      · exact ⟨.inl h3, fun v s Q q => wpAny_assign_Name q⟩
      · exact ⟨.inl h4, fun v s Q q => wpAny_assign_Name q⟩) rfl (r1.kp (extBut_kp he)) (c.kp kk2) (f.kp (keeps_kp kk2))
  exact wpAny_mono this (fun _ s₂ q => ⟨kk2.kb.trans q.1, q.2.1, _, hN, q.2.2⟩) fun _ _ e => e

theorem E1.swap2 {x₁ x₂ : Str} {p₁ p₂ tpos pos : Pos} {n : Nat} {value : Expr} (h1 : sc.names.lookup x₁ = some .local) (h2 : sc.names.lookup x₂ = some .local)
    (h : Ev G k sc ρ value fun d => ∃ a b, d = .tup [a, b] ∧ N (set (set ρ x₂ b) x₁ a))
    (hs : ∀ env, swapsWithSole [.Tuple [.Name x₁ p₁, .Name x₂ p₂] n tpos] value pos.line env = pure false := by intro _; kernel_rfl)
    (hw : ∀ env, env.scope = sc → swappedStores [.Tuple [.Name x₁ p₁, .Name x₂ p₂] n tpos] value env = pure (some [x₁, x₂])) :
    E1 G k sc ρ (.Assign [.Tuple [.Name x₁ p₁, .Name x₂ p₂] n tpos] value pos) N Rt := fun A env h₀ s ao w0 c f => by
  refine Assign_Tuple_swapped (names := [x₁, x₂]) (wpAny_mono (h A env s ao c) (fun v s₁ q => ?_) fun _ _ e => e) (hs env) (hw env c.scope)
  obtain ⟨k1, d, ⟨a, b, rfl, hN⟩, r⟩ := q
  obtain ⟨t, vs, nn, rfl, e1, r1⟩ := r.tupInv
  obtain ⟨v1, v2, rfl, r2, r3⟩ := r1.inv2
  have hz : ([x₁, x₂] : List Str).length = ([v1, v2] : List Value).toArray.size := rfl
  rw [hz]
  refine PyProof.Rows.unpackItems_tuple (items := [v1, v2].toArray) ao.1 ⟨_, e1, rfl, _, rfl⟩ fun h' he => ?_
  have kk : Kk s₁ { s₁ with heap := h' } := ⟨⟨h', s₁.toks, rfl, extBut_kp he⟩, Nat.le_refl _⟩
  have kk2 := keeps_trans k1 kk
  have := assign_all (A := A) w0 [(x₂, fun v => bindName env x₂ v), (x₁, fun v => bindName env x₁ v)] [v2, v1] [b, a] ρ { s₁ with heap := h' }
    (by
      intro t ht
      simp only [List.mem_cons, List.not_mem_nil, or_false] at ht
      rcases ht with rfl | rfl
      · exact ⟨.inl h2, fun v s Q q => wpAny_bindName q⟩
      · exact ⟨.inl h1, fun v s Q q => wpAny_bindName q⟩) rfl (RepAll.kp (extBut_kp he) (.cons r3 (.cons r2 .nil))) (c.kp kk2) (f.kp (keeps_kp kk2))
  exact wpAny_mono this (fun _ s₂ q => ⟨kk2.kb.trans q.1, q.2.1, _, hN, q.2.2⟩) fun _ _ e => e

/-! a def's call -/
theorem bindL_other {kd : Str → Option NameKind} {y : Str} : ∀ (binds : List (Str × Value)) (m : Str → Option Value), (∀ x ∈ binds, x.1 ≠ y) → bindL kd binds m y = m y
  | [], _, _ => rfl
  | (n, v) :: r, m, h => by
    unfold bindL
    rw [bindL_other r _ fun x hx => h x (.tail _ hx)]
    split
    · exact if_neg (Ne.symm (h (n, v) (.head _)))
    · rfl
theorem bindC_other {kd : Str → Option NameKind} {y : Str} : ∀ (binds : List (Str × Value)) (m : Str → Option Value), (∀ x ∈ binds, x.1 ≠ y) → bindC kd binds m y = m y
  | [], _, _ => rfl
  | (n, v) :: r, m, h => by
    unfold bindC
    rw [bindC_other r _ fun x hx => h x (.tail _ hx)]
    split
    · rfl
    · exact if_neg (Ne.symm (h (n, v) (.head _)))
theorem bindL_get {kd : Str → Option NameKind} : ∀ (names : List Str) (vs : List Value) (m : Str → Option Value) {y : Str} {v : Value}, names.Nodup → (names.zip vs).lookup y = some v → kd y = some .local → bindL kd (names.zip vs) m y = some v
  | [], _, _, _, _, _, h, _ => by simp at h
  | _ :: _, [], _, _, _, _, h, _ => by simp at h
  | n :: ns, w :: ws, m, y, v, hn, h, hk => by
    rw [List.zip_cons_cons, List.lookup_cons] at h
    rw [List.zip_cons_cons]
    unfold bindL
    obtain ⟨h1, h2⟩ := List.nodup_cons.mp hn
    by_cases hy : (y == n) = true
    · simp only [hy] at h
      cases h
      have e := beq_iff_eq.mp hy
      subst e
      rw [bindL_other _ _ (fun x hx e => h1 (by rw [← e]; exact (List.of_mem_zip hx).1)), if_pos hk]
      simp
    · simp only [hy] at h
      exact bindL_get ns ws _ h2 h hk
theorem bindC_get {kd : Str → Option NameKind} : ∀ (names : List Str) (vs : List Value) (m : Str → Option Value) {y : Str} {v : Value}, names.Nodup → (names.zip vs).lookup y = some v → kd y = some .cell → bindC kd (names.zip vs) m y = some v
  | [], _, _, _, _, _, h, _ => by simp at h
  | _ :: _, [], _, _, _, _, h, _ => by simp at h
  | n :: ns, w :: ws, m, y, v, hn, h, hk => by
    rw [List.zip_cons_cons, List.lookup_cons] at h
    rw [List.zip_cons_cons]
    unfold bindC
    obtain ⟨h1, h2⟩ := List.nodup_cons.mp hn
    by_cases hy : (y == n) = true
    · simp only [hy] at h
      cases h
      have e := beq_iff_eq.mp hy
      subst e
      rw [bindC_other _ _ (fun x hx e => h1 (by rw [← e]; exact (List.of_mem_zip hx).1)), if_neg (by rw [hk]; decide)]
      simp
    · simp only [hy] at h
      exact bindC_get ns ws _ h2 h hk
theorem zip_rep {h : Heap} : ∀ (names : List Str) {vs : List Value} {ds : List D} {y : Str} {d : D}, RepAll h vs ds → (names.zip ds).lookup y = some d → ∃ v, (names.zip vs).lookup y = some v ∧ Rep h v d
  | [], _, _, _, _, _, e => by simp at e
  | _ :: _, _, _, _, _, .nil, e => by simp at e
  | n :: ns, _, _, y, d, .cons a b, e => by
    rw [List.zip_cons_cons, List.lookup_cons] at e ⊢
    by_cases hy : (y == n) = true
    · simp only [hy] at e ⊢
      cases e
      exact ⟨_, rfl, a⟩
    · simp only [hy] at e ⊢
      exact zip_rep ns b e
theorem cellsFrom_has {x : Str} : ∀ (names : List (Str × NameKind)) (n : Nat) (acc : List (Str × Addr)), names.lookup x = some .cell ∨ (acc.lookup x).isSome = true → ((cellsFrom n names acc).lookup x).isSome = true
  | [], _, _, h => h.elim (fun e => by cases e) id
  | (y, k) :: r, n, acc, h => by
    unfold cellsFrom
    by_cases hk : (k == .cell) = true
    · rw [if_pos hk]
      refine cellsFrom_has r (n + 1) ((y, n) :: acc) ?_
      by_cases hy : (x == y) = true
      · exact .inr (by rw [List.lookup_cons, hy]; rfl)
      · refine h.imp (fun e => ?_) fun e => ?_
        · rw [List.lookup_cons] at e; simpa only [hy] using e
        · rw [List.lookup_cons]; simpa only [hy] using e
    · rw [if_neg hk]
      refine cellsFrom_has r n acc ?_
      by_cases hy : (x == y) = true
      · refine .inr (h.elim (fun e => ?_) id)
        rw [List.lookup_cons, hy] at e
        exact absurd (by rw [Option.some.inj e]; rfl) hk
      · refine h.imp (fun e => ?_) id
        rw [List.lookup_cons] at e; simpa only [hy] using e

theorem Ca.def {a : Addr} {o : Obj} {fd : FuncData} {body : List Stmt} {names : List Str} {ds es : List D} {K : D → Prop}
    (ho : ∀ h, G.W h → h.get? a = some o) (hdata : o.data = .func fd) (hcd : ∀ h, G.W h → h.CodeRec fd.code fd.qualname) (hbody : fd.body = .stmts body) (hclo : fd.closure = []) (hglo : fd.globals = mainGlobals) (hbui : fd.builtins = builtinsNs)
    (hbind : ∀ (s : Shared) vs, G.W s.heap → RepAll s.heap vs ds → ∃ us, RepAll s.heap us es ∧ BindsTo s fd ⟨vs, []⟩ (names.zip us)) (hlen : names.length = es.length) (hnd : names.Nodup)
    (hk : fd.scope.kind = .function) (hco : fd.scope.isCoroutine = false) (hgen : fd.scope.isGenerator = false) (hkinds : ∀ n ∈ names, fd.scope.names.lookup n = some .local ∨ fd.scope.names.lookup n = some .cell)
    (h : Ex G k fd.scope (fun y => (names.zip es).lookup y) body (fun _ => K .none) K) : Ca G (k + 1) (.ref a) ds K := fun A s vs ao w tk rs => by
  refine wpAny_call ?_
  obtain ⟨us, ru, hb⟩ := hbind s vs w rs
  have hd : A.depth < recursionLimit := by have := ao.2.1; omega
  refine codeAny_call_function hd (ho _ w) hdata hco hgen hbody (hcd _ w) (hb _ _ _ _ ?_)
  rw [hclo]
  refine wpAny_with_toks (n := s.toks) (Nat.le_refl _) (wpAny_newFunctionEnv_cells hk (fun x hx => ?_) fun env he s₁ x htk => ?_)
  · have hn := (List.of_mem_zip hx).1
    rcases hkinds x.1 hn with q | q
    · exact .inl q
    · exact .inr ⟨q, cellsFrom_has _ _ _ (.inl q)⟩
  · have e1 : env.locals = s.heap.objs.size := by rw [he]; rfl
    have e2 : env.scope = fd.scope := by rw [he]; rfl
    have e3 : env.globals = mainGlobals := by rw [he]; exact hglo
    have e4 : env.builtins = builtinsNs := by rw [he]; exact hbui
    have e5 : env.cells = cellsFrom (s.heap.objs.size + 1) fd.scope.names [] := by rw [he]; rfl
    have keep : Kp s.heap s₁.heap := x.toInCall.keep
    have hkd : ∀ n, env.kindOf n = fd.scope.names.lookup n := fun n => by show env.scope.names.lookup n = _; rw [e2]
    refine ⟨(G.lim w).keeps keep, codeAny_func ?_⟩
    have ao' : AOk k (A.deeper env) := ⟨ao.1, by show A.depth + 1 + k < _; have := ao.2.1; omega, by show A.units + 3 + 10 * k < _; have := ao.2.2; omega⟩
    have cx : Cx G fd.scope env (fun y => (names.zip es).lookup y) s₁ := by
      refine ⟨e2, e3, e4, hk, G.keeps keep w, Nat.lt_of_lt_of_le tk htk, fun y d e => ?_⟩
      obtain ⟨v, hv, r⟩ := zip_rep names ru e
      refine ⟨v, r.kp keep, ?_⟩
      have hy : y ∈ names := by
        have := lookup_mem e
        exact (List.of_mem_zip this).1
      rcases hkinds y hy with q | q
      · exact .loc _ (by rw [hkd]; exact q) x.toInCall.ns (bindL_get names us _ hnd hv (by rw [hkd]; exact q))
      · have hs := cellsFrom_has (x := y) fd.scope.names (s.heap.objs.size + 1) [] (.inl q)
        obtain ⟨c, hc⟩ := Option.isSome_iff_exists.mp hs
        rw [← e5] at hc
        refine .cell c (by rw [hkd]; exact q) hc ?_
        have := x.cell y c hc
        rw [bindC_get names us _ hnd hv (by rw [hkd]; exact q)] at this
        exact this
    have fm : Fm env s.heap s₁.heap := by
      refine ⟨keep, ⟨_, x.toInCall.ns⟩, by rw [e1]; exact get_size _, fun n c e => ⟨⟨_, x.cell n c e⟩, ?_⟩, fun n n' c e e' => name_of_addr x.apart (mem_of_lookup e) (mem_of_lookup e'), fun n e => ?_⟩
      · have hc := x.above n c (mem_of_lookup e)
        rw [e1] at hc
        cases q : s.heap.get? c with
        | none => rfl
        | some o => exact absurd (Heap.lt_size q) (Nat.not_lt.mpr (Nat.le_of_lt hc))
      · rw [hkd] at e
        have hs := cellsFrom_has (x := n) fd.scope.names (s.heap.objs.size + 1) [] (.inl e)
        rw [e5]
        exact Option.isSome_iff_exists.mp hs
    refine wpAny_mono (h (A.deeper env) env s.heap s₁ ao' w cx fm) (fun fl s₂ q => ?_) fun _ _ e => e.elim
    obtain ⟨kb, fm2, q⟩ := q
    have kk : Kk s s₂ := by
      obtain ⟨hh, tk1, e⟩ := x.toInCall.same
      obtain ⟨⟨h2, tk2, e'⟩, b2, _⟩ := kb
      refine ⟨⟨h2, tk2, by rw [e', e], ?_⟩, Nat.le_trans htk b2⟩
      have := fm2.keep
      rw [e'] at this
      exact this
    cases fl with
    | next => obtain ⟨ρ', hN, _⟩ := q; exact ⟨kk, _, hN, .none⟩
    | ret v => exact ⟨kk, q⟩
    | brk => exact q.elim
    | cont => exact q.elim
end
end Mine
end
section
set_option linter.unusedVariables false
namespace Mine
open PySem PyProof.Rows

/-! a list of the block's own that is changed in place -/
/-- b: the list's own append, bound -/
def Ow (h₀ h : Heap) (a : Addr) (b : Option Addr) (ds : List D) : Prop := h₀.get? a = none ∧ (∀ d ∈ ds, NoL d) ∧ (∀ c, b = some c → h.get? c = some (bmObj a)) ∧ ∃ vs n, h.get? a = some (listObj vs n) ∧ RepAll h vs ds
theorem ns_not_fields {h : Heap} {a c : Addr} {m : Str → Option Value} {o : Obj} {vs : Array Value} (x : h.Ns a m) (e : h.get? c = some o) (hs : o.data = .fields vs) : c ≠ a := fun q => by
  obtain ⟨o', es, ep, ho, hd, _⟩ := x
  rw [q, ho] at e; cases e
  rw [hs] at hd; cases hd
theorem cell_not_fields {h : Heap} {a c : Addr} {v : Option Value} {o : Obj} {vs : Array Value} (x : h.IsCell a v) (e : h.get? c = some o) (hs : o.data = .fields vs) : c ≠ a := fun q => by
  obtain ⟨o', ho, hd⟩ := x
  rw [q, ho] at e; cases e
  rw [hs] at hd; cases hd
def Flat (ρ : Rho) : Prop := ∀ y d, ρ y = some d → NoL d
theorem Flat.set {ρ : Rho} {x : Str} {d : D} (h : Flat ρ) (hd : NoL d) : Flat (set ρ x d) := fun y e q => by
  unfold Mine.set at q
  split at q
  · cases q; exact hd
  · exact h y e q
theorem RepAll.eraseIdx {h : Heap} : ∀ {vs : List Value} {ds : List D} (j : Nat), RepAll h vs ds → RepAll h (vs.eraseIdx j) (ds.eraseIdx j)
  | _, _, _, .nil => .nil
  | _, _, 0, .cons _ r => r
  | _, _, j + 1, .cons x r => .cons x (RepAll.eraseIdx j r)
/-- all but the frame's own and the list stands -/
def Kc (env : Env) (a : Addr) (s s' : Shared) : Prop :=
  (∃ h' tk, s' = { s with heap := h', toks := tk }) ∧ s.toks ≤ s'.toks ∧ ∀ b o, s.heap.get? b = some o → b ≠ env.locals → (∀ n, env.cells.lookup n ≠ some b) → b ≠ a → s'.heap.get? b = some o
theorem Kc.trans {env : Env} {a : Addr} {s s' s'' : Shared} (x : Kc env a s s') (y : Kc env a s' s'') : Kc env a s s'' := by
  obtain ⟨⟨h', tk, rfl⟩, a2, a3⟩ := x
  obtain ⟨⟨h'', tk', rfl⟩, b2, b3⟩ := y
  exact ⟨⟨h'', tk', rfl⟩, Nat.le_trans a2 b2, fun b o e h1 h2 h3 => b3 b o (a3 b o e h1 h2 h3) h1 h2 h3⟩
theorem Kb.kc {env : Env} {a : Addr} {s s' : Shared} (x : Kb env s s') : Kc env a s s' := ⟨x.1, x.2.1, fun b o e h1 h2 _ => x.2.2 b o e h1 h2⟩
abbrev Xw (G : Gx) (sc : Scope) (env : Env) (h₀ : Heap) (a : Addr) (b : Option Addr) (N : Rho → List D → Prop) (Rt : D → Prop) (s : Shared) (f : Flow) (s' : Shared) : Prop :=
  Kc env a s s' ∧ Fm env h₀ s'.heap ∧ match f with
    | .next => ∃ ρ' ds', N ρ' ds' ∧ Cx G sc env ρ' s' ∧ Ow h₀ s'.heap a b ds'
    | .ret v => ∃ d, Rt d ∧ Rep s'.heap v d
    | _ => False
def Exo (G : Gx) (k : Nat) (sc : Scope) (a : Addr) (b : Option Addr) (ρ : Rho) (ds : List D) (ss : List Stmt) (N : Rho → List D → Prop) (Rt : D → Prop) : Prop :=
  ∀ A env h₀ s, AOk k A → G.W h₀ → Cx G sc env ρ s → Fm env h₀ s.heap → Ow h₀ s.heap a b ds → wpAny (M G) A (execs ss env) (Xw G sc env h₀ a b N Rt s) No s
def E1o (G : Gx) (k : Nat) (sc : Scope) (a : Addr) (b : Option Addr) (ρ : Rho) (ds : List D) (st : Stmt) (N : Rho → List D → Prop) (Rt : D → Prop) : Prop :=
  ∀ A env h₀ s, AOk k A → G.W h₀ → Cx G sc env ρ s → Fm env h₀ s.heap → Ow h₀ s.heap a b ds → wpAny (M G) A (exec st env) (Xw G sc env h₀ a b N Rt s) No s
section
variable {G : Gx} {k : Nat} {sc : Scope} {a : Addr} {b : Option Addr} {ρ : Rho} {ds : List D} {N : Rho → List D → Prop} {Rt : D → Prop}
theorem Exo.nil (h : N ρ ds) : Exo G k sc a b ρ ds [] N Rt := fun A env h₀ s _ _ c f o => wpAny_execs_nil ⟨(Kb.refl env s).kc, f, ρ, ds, h, c, o⟩
theorem Exo.cons {st : Stmt} {rest : List Stmt} (h : E1o G k sc a b ρ ds st (fun ρ' ds' => Exo G k sc a b ρ' ds' rest N Rt) Rt) : Exo G k sc a b ρ ds (st :: rest) N Rt := fun A env h₀ s ao w0 c f o => by
  refine wpAny_execs_cons (wpAny_mono (h A env h₀ s ao w0 c f o) (fun fl s₁ q => ?_) fun _ _ e => e)
  obtain ⟨k1, f1, q⟩ := q
  cases fl with
  | next =>
    obtain ⟨ρ', ds', hN, c', o'⟩ := q
    exact wpAny_mono (hN A env h₀ s₁ ao w0 c' f1 o') (fun _ _ q => ⟨k1.trans q.1, q.2⟩) fun _ _ e => e
  | ret v => exact ⟨k1, f1, q⟩
  | brk => exact q.elim
  | cont => exact q.elim
theorem Ow.kb {env : Env} {h₀ : Heap} {s s' : Shared} (f : Fm env h₀ s.heap) (x : Kb env s s') (o : Ow h₀ s.heap a b ds) : Ow h₀ s'.heap a b ds := by
  obtain ⟨o1, o2, ob, vs, n, e, r⟩ := o
  obtain ⟨m, hm⟩ := f.loc
  have hb : ∀ c, b = some c → s'.heap.get? c = some (bmObj a) := fun c q => by
    have e := ob c q
    exact x.2.2 c _ e (ns_not_fields hm e rfl) (fun n q => by
      obtain ⟨⟨v, hv⟩, _⟩ := f.cells n c q
      exact cell_not_fields hv e rfl rfl)
  have ks : Ks s.heap s'.heap := fun b o e hs => x.2.2 b o e (ns_not_seq hm e hs) (fun n q => by
    obtain ⟨⟨v, hv⟩, _⟩ := f.cells n b q
    exact cell_not_seq hv e hs rfl)
  exact ⟨o1, o2, hb, vs, n, ks _ _ e rfl, r.ks ks⟩
theorem E1o.lift {st : Stmt} (h : E1 G k sc ρ st (fun ρ' => N ρ' ds) Rt) : E1o G k sc a b ρ ds st N Rt := fun A env h₀ s ao w0 c f o => by
  refine wpAny_mono (h A env h₀ s ao w0 c f) (fun fl s₁ q => ?_) fun _ _ e => e
  obtain ⟨k1, f1, q⟩ := q
  refine ⟨k1.kc, f1, ?_⟩
  cases fl with
  | next => obtain ⟨ρ', hN, c'⟩ := q; exact ⟨ρ', ds, hN, c', o.kb f k1⟩
  | ret v => exact q
  | brk => exact q
  | cont => exact q
theorem own_change {env : Env} {h₀ h' : Heap} {s : Shared} {vs' : List Value} {n' : Nat} {ds' : List D} (w0 : G.W h₀) (c : Cx G sc env ρ s) (f : Fm env h₀ s.heap) (hfl : Flat ρ) (o : Ow h₀ s.heap a b ds)
    (sb : ∀ b ob, b ≠ a → s.heap.get? b = some ob → h'.get? b = some ob) (e : h'.get? a = some (listObj vs' n')) (r : RepAll s.heap vs' ds') (hn : ∀ d ∈ ds', NoL d) :
    Kc env a s { s with heap := h' } ∧ Fm env h₀ h' ∧ Cx G sc env ρ { s with heap := h' } ∧ Ow h₀ h' a b ds' := by
  obtain ⟨o1, o2, ob, vs, n, e0, r0⟩ := o
  have hb : ∀ c, b = some c → h'.get? c = some (bmObj a) := fun c q => by
    have e := ob c q
    exact sb c _ (fun z => by
      rw [z, e0] at e
      have hq : Value.type "list" = Value.type "builtin_function_or_method" := congrArg (fun x : PySem.Obj => x.cls) (Option.some.inj e)
      exact absurd hq (by decide)) e
  have keep : Kp h₀ h' := fun b ob q => sb b ob (fun z => by rw [z, o1] at q; cases q) (f.keep b ob q)
  have kt : Kt s.heap h' := fun b us m q => sb b _ (fun z => by
    rw [z, e0] at q
    have hq : Value.type "list" = Value.type "tuple" := congrArg (fun x : PySem.Obj => x.cls) (Option.some.inj q)
    exact absurd hq (by decide)) q
  obtain ⟨m, hm⟩ := f.loc
  have hla : env.locals ≠ a := fun z => ns_not_seq hm e0 rfl z.symm
  have hca : ∀ n c, env.cells.lookup n = some c → c ≠ a := fun n c q z => by
    obtain ⟨⟨v, hv⟩, _⟩ := f.cells n c q
    exact cell_not_seq hv e0 rfl z.symm
  have hL : ∀ ob, s.heap.get? env.locals = some ob → h'.get? env.locals = some ob := fun ob q => sb _ ob hla q
  refine ⟨⟨⟨h', s.toks, rfl⟩, Nat.le_refl _, fun b ob q _ _ z => sb b ob z q⟩, ⟨keep, ⟨m, hm.at' hL⟩, f.lnew, fun n c q => ?_, f.apart, f.kinds⟩, ⟨c.scope, c.glo, c.bui, c.fn, G.keeps keep w0, c.tk, fun y d q => ?_⟩, ⟨o1, hn, hb, vs', n', e, r.kt kt hn⟩⟩
  · obtain ⟨⟨v, ob, ho, hd⟩, hz⟩ := f.cells n c q
    exact ⟨⟨v, ob, sb _ ob (hca n c q) ho, hd⟩, hz⟩
  · obtain ⟨v, rv, l⟩ := c.vars y d q
    refine ⟨v, rv.kt kt (hfl y d q), ?_⟩
    cases l with
    | loc m' a' b' e' => exact .loc m' a' (b'.at' hL) e'
    | cell cc a' b' e' => obtain ⟨ob, ho, hd⟩ := e'; exact .cell cc a' b' ⟨ob, sb _ ob (hca _ _ b') ho, hd⟩
    | free cc a' n' b' e' => obtain ⟨ob, ho, hd⟩ := e'; exact .free cc a' n' b' ⟨ob, sb _ ob (hca _ _ b') ho, hd⟩
theorem E1o.append {x : Str} {p apos pos spos : Pos} {e : Expr} (hx : ρ x = some (.raw (.ref a))) (hfl : Flat ρ) (hsz : ds.length < sizeLine) (h : Ev G k sc ρ e fun d => NoL d ∧ N ρ (ds ++ [d]))
    (hd : (x == ("__debug__" : Str)) = false := by decide)
    (hbase : ∀ env, attributeBase (.Name x p) "append" env (eval (.Name x p) env) = eval (.Name x p) env := by intro _; kernel_rfl)
    (hfew : ∀ env, ((backTo pos (starEach [e] env)).all (fun x => !x.1) && (backToKw pos (keywordEach [] env)).all (fun x => x.1.isSome) && decide (([e] : List Expr).length + ([] : List Keyword).length + (if ([] : List Keyword).isEmpty then 0 else 1) < 30)) = true := by intro _; kernel_rfl)
    (hline : (apos.endLine == pos.line) = true := by kernel_rfl) (htrees : ∀ env, backTo pos (starEach [e] env) = [(false, eval e env)] := by intro _; kernel_rfl)
    (hs : ∀ env, swapsWith (.Call (.Attribute (.Name x p) "append" apos) [e] [] pos) none spos.line env = pure false := by intro _; kernel_rfl) :
    E1o G k sc a b ρ ds (.Expr (.Call (.Attribute (.Name x p) "append" apos) [e] [] pos) spos) N Rt := fun A env h₀ s ao w0 c f o => by
  have hi : interactive env = false := by
    unfold interactive; rw [c.scope, c.fn]; rfl
  refine wpAny_Expr (wpAny_Call_append (hbase env) (hfew env) hline (htrees env) (wpAny_mono (Ev.var (K := fun d => d = .raw (.ref a)) hx rfl hd A env s ao c) (fun ov s₁ q => ?_) fun _ _ e => e)) hi (hs env)
  obtain ⟨k1, d, rfl, r⟩ := q
  cases r
  have kb1 := Kk.kb (env := env) k1
  obtain ⟨o1, o2, ob, vs, n, e0, r0⟩ := o.kb f kb1
  refine ⟨a, vs.toArray, rfl, ⟨_, n, e0, rfl, rfl, rfl⟩, ?_⟩
  refine wpAny_mono (h A env s₁ ao (c.kp k1)) (fun y s₂ q => ?_) fun _ _ e => e
  obtain ⟨k2, d, ⟨hnl, hN⟩, ry⟩ := q
  have kk := keeps_trans k1 k2
  have e2 : s₂.heap.get? a = some (listObj vs n) := keeps_kp k2 _ _ e0
  have r2 := r0.kp (keeps_kp k2)
  have hlen : vs.length = ds.length := r0.length
  refine wpAny_list_append_plain ⟨n, e2⟩ (fun h' hp sb => ?_) (by simp; omega)
  obtain ⟨n', hp⟩ := hp
  have hp' : h'.get? a = some (listObj (vs ++ [y]) n') := by rw [hp]; simp
  have := own_change (ds := ds) (ds' := ds ++ [d]) w0 (c.kp kk) (f.kp (keeps_kp kk)) hfl ⟨o1, o2, (fun c q => keeps_kp k2 _ _ (ob c q)), vs, n, e2, r2⟩ (fun b ob hb q => (sb.2 b hb).trans q) hp' (r2.append (.cons ry .nil)) (fun z hz => by
    rcases List.mem_append.mp hz with hz | hz
    · exact o2 z hz
    · rw [List.mem_singleton.mp hz]; exact hnl)
  exact ⟨(Kk.kb kk).kc.trans this.1, this.2.1, ρ, ds ++ [d], hN, this.2.2.1, this.2.2.2⟩
theorem E1o.del {x : Str} {p pos spos : Pos} {e : Expr} {i : Int} {j : Nat} (hx : ρ x = some (.raw (.ref a))) (hfl : Flat ρ) (hsz : ds.length ≤ sizeLine) (hfit : Builtin.List.listFitsIndex i = true) (hj : seqIndex? i ds.length = some j)
    (h : Ev G k sc ρ e fun d => d = .int i) (hN : N ρ (ds.eraseIdx j)) (hd : (x == ("__debug__" : Str)) = false := by decide) :
    E1o G k sc a b ρ ds (.Delete [.Subscript (.Name x p) e pos] spos) N Rt := fun A env h₀ s ao w0 c f o => by
  refine wpAny_Delete (wpAny_deleteEach_cons (wpAny_delete_Subscript (wpAny_mono (Ev.var (K := fun d => d = .raw (.ref a)) hx rfl hd A env s ao c) (fun ov s₁ q => ?_) fun _ _ e => e)))
  obtain ⟨k1, d, rfl, r⟩ := q
  cases r
  obtain ⟨o1, o2, ob, vs, n, e0, r0⟩ := o.kb f (Kk.kb (env := env) k1)
  refine wpAny_mono (h A env s₁ ao (c.kp k1)) (fun y s₂ q => ?_) fun _ _ e => e
  obtain ⟨k2, d, rfl, ry⟩ := q
  obtain ⟨u, rfl⟩ := ry.intInv
  have kk := keeps_trans k1 k2
  have e2 : s₂.heap.get? a = some (listObj vs n) := keeps_kp k2 _ _ e0
  have r2 := r0.kp (keeps_kp k2)
  have hlen : vs.length = ds.length := r0.length
  refine wpAny_delItem_plain ⟨n, e2⟩ hfit (k := j) (by simpa [hlen] using hj) (fun h' hp sb => ?_) (by simp; omega)
  obtain ⟨n', hp⟩ := hp
  have hjl : (vs.toArray.eraseIdxIfInBounds j) = (vs.eraseIdx j).toArray := by simp
  have hp' : h'.get? a = some (listObj (vs.eraseIdx j) n') := by rw [hp, hjl]
  have := own_change (ds := ds) (ds' := ds.eraseIdx j) w0 (c.kp kk) (f.kp (keeps_kp kk)) hfl ⟨o1, o2, (fun c q => keeps_kp k2 _ _ (ob c q)), vs, n, e2, r2⟩ (fun b ob hb q => (sb.2 b hb).trans q) hp' (r2.eraseIdx j) (fun z hz => o2 z (List.mem_of_mem_eraseIdx hz))
  exact wpAny_deleteEach_nil ⟨(Kk.kb kk).kc.trans this.1, this.2.1, ρ, _, hN, this.2.2.1, this.2.2.2⟩
theorem Cx.read {env : Env} {h₀ : Heap} {s : Shared} {x : Str} (c : Cx G sc env ρ s) (o : Ow h₀ s.heap a b ds) (hx : ρ x = some (.raw (.ref a))) : Cx G sc env (set ρ x (.list ds)) s :=
  ⟨c.scope, c.glo, c.bui, c.fn, c.w, c.tk, fun y d q => by
    unfold Mine.set at q
    split at q
    · rename_i e
      cases q
      obtain ⟨v, r, l⟩ := c.vars x _ hx
      cases r
      obtain ⟨_, _, _, vs, n, e0, r0⟩ := o
      exact ⟨_, .list e0 r0, e ▸ l⟩
    · exact c.vars y d q⟩
theorem Exo.leave {x : Str} {ss : List Stmt} (hx : ρ x = some (.raw (.ref a))) (h : Ex G k sc (set ρ x (.list ds)) ss (fun _ => False) Rt) : Exo G k sc a b ρ ds ss N Rt := fun A env h₀ s ao w0 c f o => by
  refine wpAny_mono (h A env h₀ s ao w0 (c.read o hx) f) (fun fl s₁ q => ?_) fun _ _ e => e
  obtain ⟨k1, f1, q⟩ := q
  refine ⟨k1.kc, f1, ?_⟩
  cases fl with
  | next => obtain ⟨_, hN, _⟩ := q; exact hN.elim
  | ret v => exact q
  | brk => exact q
  | cont => exact q
end
end Mine
end
section
set_option linter.unusedVariables false
namespace Mine
open PySem PyProof.Rows

/-! more of the own list: it is made, bound, read, walked beside -/
def Loo (G : Gx) (k : Nat) (sc : Scope) (a : Addr) (b : Option Addr) (x : Str) (body : List Stmt) (N : Rho → List D → Prop) (Rt : D → Prop) : List D → Rho → List D → Prop
  | [], ρ, ds => N ρ ds
  | d :: rest, ρ, ds => Exo G k sc a b (set ρ x d) ds body (fun ρ' ds' => Loo G k sc a b x body N Rt rest ρ' ds') Rt

theorem Kc.kb {env : Env} {a : Addr} {s s' : Shared} (x : Kc env a s s') (h : s.heap.get? a = none) : Kb env s s' :=
  ⟨x.1, x.2.1, fun b o e h1 h2 => x.2.2 b o e h1 h2 fun q => by rw [q, h] at e; cases e⟩
theorem Kc.kt {env : Env} {h₀ : Heap} {a : Addr} {s s' : Shared} {vs : List Value} {n : Nat} (x : Kc env a s s') (f : Fm env h₀ s.heap) (e0 : s.heap.get? a = some (listObj vs n)) : Kt s.heap s'.heap := fun b us m q => by
  obtain ⟨mm, hm⟩ := f.loc
  refine x.2.2 b _ q (ns_not_seq hm q rfl) (fun n' z => ?_) fun z => ?_
  · obtain ⟨⟨v, hv⟩, _⟩ := f.cells n' b z
    exact cell_not_seq hv q rfl rfl
  · rw [z, e0] at q
    have hq : Value.type "list" = Value.type "tuple" := congrArg (fun x : PySem.Obj => x.cls) (Option.some.inj q)
    exact absurd hq (by decide)

section
variable {G : Gx} {k : Nat} {sc : Scope} {a : Addr} {b : Option Addr} {ρ : Rho} {ds : List D} {N : Rho → List D → Prop} {Rt : D → Prop}

theorem Ex.make {x : Str} {p pos : Pos} {value : Expr} {rest : List Stmt} {N : Rho → Prop} (hx : sc.names.lookup x = some .local)
    (h : EvF G k sc ρ value fun d => ∃ ds, d = .list ds ∧ (∀ d ∈ ds, NoL d) ∧ ∀ a, Exo G k sc a none (set ρ x (.raw (.ref a))) ds rest (fun ρ' _ => N ρ') Rt)
    (hs : ∀ env, swapsWith value (some (.Name x p)) pos.line env = pure false := by intro _; kernel_rfl) : Ex G k sc ρ (.Assign [.Name x p] value pos :: rest) N Rt := fun A env h₀ s ao w0 c f => by
  refine wpAny_execs_cons (wpAny_Assign_Name (wpAny_mono (h A env s ao c) (fun v s₁ q => ?_) fun _ _ e => e) (hs env))
  obtain ⟨k1, ⟨d, ⟨ds, rfl, hno, hX⟩, r⟩, fr⟩ := q
  obtain ⟨a, vs, n, rfl, e1, r1⟩ := r.listInv
  have f1 := f.kp (keeps_kp k1)
  have ha : s.heap.get? a = none := fr a rfl
  have h0 : h₀.get? a = none := by
    cases e : h₀.get? a with
    | none => rfl
    | some o => rw [f.keep _ _ e] at ha; cases ha
  refine wpAny_mono (store_ok (d := .raw (.ref a)) w0 (c.kp k1) f1 .raw (.inl hx)) (fun _ s₂ q => ?_) fun _ _ e => e
  obtain ⟨kb, fm, cx⟩ := q
  have ow : Ow h₀ s₁.heap a none ds := ⟨h0, hno, (fun c q => by cases q), vs, n, e1, r1⟩
  refine wpAny_mono (hX a A env h₀ s₂ ao w0 cx fm (ow.kb f1 kb)) (fun fl s₃ q => ?_) fun _ _ e => e
  obtain ⟨k3, f3, q⟩ := q
  refine ⟨((k1.kb.trans kb).kc.trans k3).kb ha, f3, ?_⟩
  cases fl with
  | next => obtain ⟨ρ', ds', hN, c', _⟩ := q; exact ⟨ρ', hN, c'⟩
  | ret v => exact q
  | brk => exact q
  | cont => exact q

theorem E1o.iteS {test : Expr} {body orelse : List Stmt} {pos : Pos} (h : Tr G k sc ρ test fun t => if t then Exo G k sc a b ρ ds body N Rt else Exo G k sc a b ρ ds orelse N Rt) : E1o G k sc a b ρ ds (.If test body orelse pos) N Rt := fun A env h₀ s ao w0 c f o => by
  refine wpAny_If (wpAny_mono (h A env s ao c) (fun t s₁ q => ?_) fun _ _ e => e)
  obtain ⟨k1, q⟩ := q
  have k1b : Kb env s s₁ := k1.kb
  cases t with
  | false => simp only [Bool.false_eq_true, if_false] at q ⊢; exact wpAny_mono (q A env h₀ s₁ ao w0 (c.kp k1) (f.kp (keeps_kp k1)) (o.kb f k1b)) (fun _ _ q => ⟨k1b.kc.trans q.1, q.2⟩) fun _ _ e => e
  | true => simp only [if_true] at q ⊢; exact wpAny_mono (q A env h₀ s₁ ao w0 (c.kp k1) (f.kp (keeps_kp k1)) (o.kb f k1b)) (fun _ _ q => ⟨k1b.kc.trans q.1, q.2⟩) fun _ _ e => e

theorem E1o.readAssign {x y : Str} {p pos : Pos} {value : Expr} (hx : ρ x = some (.raw (.ref a))) (hy : sc.names.lookup y = some .local) (h : Ev G k sc (set ρ x (.list ds)) value fun d => N (set ρ y d) ds)
    (hs : ∀ env, swapsWith value (some (.Name y p)) pos.line env = pure false := by intro _; kernel_rfl) : E1o G k sc a b ρ ds (.Assign [.Name y p] value pos) N Rt := fun A env h₀ s ao w0 c f o => by
  refine wpAny_Assign_Name (wpAny_mono (h A env s ao (c.read o hx)) (fun v s₁ q => ?_) fun _ _ e => e) (hs env)
  obtain ⟨k1, d, hN, r⟩ := q
  have f1 := f.kp (keeps_kp k1)
  refine wpAny_mono (store_ok w0 (c.kp k1) f1 r (.inl hy)) (fun _ s₂ q => ?_) fun _ _ e => e
  exact ⟨(k1.kb.trans q.1).kc, q.2.1, _, ds, hN, q.2.2, (o.kb f k1.kb).kb f1 q.1⟩

theorem E1o.readAssert {x : Str} {test : Expr} {pos : Pos} (hx : ρ x = some (.raw (.ref a))) (h : Tr G k sc (set ρ x (.list ds)) test fun t => t = true ∧ N ρ ds) : E1o G k sc a b ρ ds (.Assert test none pos) N Rt := fun A env h₀ s ao w0 c f o =>
  wpAny_Assert_holds (wpAny_mono (h A env s ao (c.read o hx)) (fun t s₁ q => ⟨q.2.1, (Kk.kb q.1).kc, f.kp (keeps_kp q.1), ρ, ds, q.2.2, c.kp q.1, o.kb f q.1.kb⟩) fun _ _ e => e)

/-- append = x.append -/
theorem Exo.bind {x y : Str} {px py apos pos : Pos} {rest : List Stmt} (hx : ρ x = some (.raw (.ref a))) (hy : sc.names.lookup y = some .local) (h : ∀ c, Exo G k sc a (some c) (set ρ y (.raw (.ref c))) ds rest N Rt)
    (hd : (x == ("__debug__" : Str)) = false := by decide)
    (he : ∀ env, eval (.Attribute (.Name x px) (PySem.Str.ofString "append") apos) env = (do
      let o ← eval (.Name x px) env
      standAt apos.atName
      let r ← holding [o] (getAttr o (PySem.Str.ofString "append") true)
      letTemporaryGo (.Name x px) o r
      pure r) := by intro _; with_unfolding_all rfl)
    (hs : ∀ env, swapsWith (.Attribute (.Name x px) (PySem.Str.ofString "append") apos) (some (.Name y py)) pos.line env = pure false := by intro _; kernel_rfl) :
    Exo G k sc a none ρ ds (.Assign [.Name y py] (.Attribute (.Name x px) (PySem.Str.ofString "append") apos) pos :: rest) N Rt := fun A env h₀ s ao w0 c f o => by
  refine wpAny_execs_cons (wpAny_Assign_Name (Attribute_any_ (wpAny_mono (Ev.var (K := fun d => d = .raw (.ref a)) hx rfl hd A env s ao c) (fun ov s₁ q => ?_) fun _ _ e => e) (he env)) (hs env))
  obtain ⟨k1, d, rfl, r⟩ := q
  cases r
  have o1 := o.kb f (Kk.kb (env := env) k1)
  obtain ⟨o1, o2, ob, vs, n, e0, r0⟩ := o1
  refine wpAny_mono (up (Q := fun v s' => ∃ c, v = .ref c ∧ s'.heap.get? c = some (bmObj a)) (getAttr_append e0 fun tk => ⟨⟨_, tk, rfl, fun _ _ e => Heap.get?_push_of_some _ e⟩, _, rfl, Heap.get?_push_size _ rfl⟩)) (fun v s₂ q => ?_) fun _ _ e => e.elim
  obtain ⟨k2, cc, rfl, hcc⟩ := q
  have k12 := keeps_trans k1 k2
  have f2 := f.kp (keeps_kp k12)
  refine wpAny_mono (store_ok (d := .raw (.ref cc)) w0 (c.kp k12) f2 .raw (.inl hy)) (fun _ s₃ q => ?_) fun _ _ e => e
  obtain ⟨kb, fm, cx⟩ := q
  have ow : Ow h₀ s₂.heap a (some cc) ds := ⟨o1, o2, (fun c q => by cases q; exact hcc), vs, n, keeps_kp k2 _ _ e0, r0.kp (keeps_kp k2)⟩
  refine wpAny_mono (h cc A env h₀ s₃ ao w0 cx fm (ow.kb f2 kb)) (fun fl s₄ q => ?_) fun _ _ e => e
  obtain ⟨k3, f3, q⟩ := q
  refine ⟨(k12.kb.trans kb).kc.trans k3, f3, ?_⟩
  cases fl with
  | next =>
    obtain ⟨ρ', ds', hN, c', ob1, ob2, _, ob4⟩ := q
    exact ⟨ρ', ds', hN, c', ob1, ob2, (fun c q => by cases q), ob4⟩
  | ret v => exact q
  | brk => exact q
  | cont => exact q

theorem callWith_bm {M : Model} {A : Around} {E : Value → Shared → Prop} {s : Shared} {pos : Pos} {c : Addr} {args : List (Bool × Sem Value)} {Q : Value → Shared → Prop} (hplain : args.any (·.1) = false)
    (h : wpAny M A (evalArgs (.ref c) true args []) (fun x s₁ => (∃ a, s₁.heap.get? c = some (bmObj a)) ∧ wpAny M A (call (.ref c) x.pos x.kw) Q E s₁) E s) : wpAny M A (callWith pos (.ref c) [] args []) Q E s := by
  unfold callWith
  refine wpAny_bind (wpAny_holding (wpAny_mono h (fun x s₁ h₁ => wpAny_bind (wpAny_standAt ?_)) fun _ _ x => x))
  obtain ⟨⟨a, ha⟩, h₁⟩ := h₁
  simp only [hplain, List.any_nil, Bool.or_false]
  refine wpAny_bind (m := keeperOf (.ref c)) ?_
  unfold keeperOf
  refine wpAny_bind (wpAny_load ha ?_)
  show wpAny _ _ (Pure.pure Keeper.machine) _ _ _
  refine wpAny_pure ?_
  exact wpAny_bind (wpAny_mono h₁ (fun r s₂ hr => wpAny_bind (wpAny_holding (wpAny_point (wpAny_pure hr)))) fun _ _ x => x)

/-- append(e) -/
theorem E1o.appendB {y : Str} {np pos spos : Pos} {e : Expr} {cc : Addr} (hy : ρ y = some (.raw (.ref cc))) (hfl : Flat ρ) (hsz : ds.length < sizeLine) (h : Ev G k sc ρ e fun d => NoL d ∧ N ρ (ds ++ [d]))
    (hd : (y == ("__debug__" : Str)) = false := by decide) (hne : ∀ env, starEach [e] env ≠ [] := by with_unfolding_all (intro _ h; cases h))
    (hee : ∀ env, starEach [e] env = (false, eval e env) :: starEach [] env := by intro _; kernel_rfl)
    (hs : ∀ env, swapsWith (.Call (.Name y np) [e] [] pos) none spos.line env = pure false := by intro _; kernel_rfl) :
    E1o G k sc a (some cc) ρ ds (.Expr (.Call (.Name y np) [e] [] pos) spos) N Rt := fun A env h₀ s ao w0 c f o => by
  have hi : interactive env = false := by
    unfold interactive; rw [c.scope, c.fn]; rfl
  refine wpAny_Expr ?_ hi (hs env)
  rw [eval_CallName]
  refine wpAny_bind (wpAny_mono (Ev.var (K := fun d => d = .raw (.ref cc)) hy rfl hd A env s ao c) (fun ov s₁ q => ?_) fun _ _ e => e)
  obtain ⟨k1, d, rfl, r⟩ := q
  cases r
  obtain ⟨o1, o2, ob, vs, n, e0, r0⟩ := o.kb f (Kk.kb (env := env) k1)
  have hL : EvL G k sc ρ [e] fun dd => ∃ d, dd = [d] ∧ NoL d ∧ N ρ (ds ++ [d]) := EvL.one (h.mono fun d hd => ⟨d, rfl, hd⟩) hee
  refine callWith_bm (back_any pos _ (hL.1 env)).1 (args_wp hL ao (c.kp k1) (hne env) fun us s₂ dd k2 hdd rs => ⟨⟨a, keeps_kp k2 _ _ (ob cc rfl)⟩, ?_⟩)
  obtain ⟨d, rfl, hnl, hN⟩ := hdd
  obtain ⟨y, rfl, ry⟩ := rs.inv1
  have kk := keeps_trans k1 k2
  have e2 : s₂.heap.get? a = some (listObj vs n) := keeps_kp k2 _ _ e0
  have r2 := r0.kp (keeps_kp k2)
  have hlen : vs.length = ds.length := r0.length
  refine call_bm (keeps_kp k2 _ _ (ob cc rfl)) e2 (fun h' hp sb => ?_) (by simp; omega)
  obtain ⟨n', hp⟩ := hp
  have hp' : h'.get? a = some (listObj (vs ++ [y]) n') := by rw [hp]; simp
  have := own_change (ds := ds) (ds' := ds ++ [d]) w0 (c.kp kk) (f.kp (keeps_kp kk)) hfl ⟨o1, o2, (fun c q => keeps_kp k2 _ _ (ob c q)), vs, n, e2, r2⟩ (fun b ob hb q => (sb.2 b hb).trans q) hp' (r2.append (.cons ry .nil)) (fun z hz => by
    rcases List.mem_append.mp hz with hz | hz
    · exact o2 z hz
    · rw [List.mem_singleton.mp hz]; exact hnl)
  exact ⟨(Kk.kb kk).kc.trans this.1, this.2.1, ρ, ds ++ [d], hN, this.2.2.1, this.2.2.2⟩

theorem E1o.for {x : Str} {p pos : Pos} {iter : Expr} {body : List Stmt} (hx : sc.names.lookup x = some .local ∨ sc.names.lookup x = some .cell)
    (h : EvF G k sc ρ iter fun src => ∃ items, itemsOf src = some items ∧ items.length ≤ sizeLine ∧ (∀ d ∈ items, NoL d) ∧ Loo G k sc a b x body N Rt items ρ ds) (hs : ∀ env v, foldedSetIterable iter env v = pure v := by intro _ _; kernel_rfl) :
    E1o G k sc a b ρ ds (.For (.Name x p) iter body [] pos) N Rt := fun A env h₀ s ao w0 c f o => by
  refine wpAny_For (wpAny_mono (h A env s ao c) (fun v s₁ q => ?_) fun _ _ e => e) (hs env)
  obtain ⟨k1, ⟨src, ⟨ds', hi, hsz, hno, hlo⟩, r⟩, fr⟩ := q
  have c1 := c.kp k1
  have f1 := f.kp (keeps_kp k1)
  have o1 := o.kb f (Kk.kb (env := env) k1)
  refine wpAny_mono (pyIter_ok (G := G) (A := A) r hi hsz) (fun it s₂ q => ?_) fun _ _ e => e
  obtain ⟨I, fp, P, St, rfl, io⟩ := q
  have W := io.W A ao.1
  have c2 := c1.kp io.k
  have f2 := f1.kp (keeps_kp io.k)
  have o2 := o1.kb f1 (Kk.kb (env := env) io.k)
  have hIL : I ≠ env.locals := fun e => by
    obtain ⟨m, o, es, ep, ho, _⟩ := f1.loc
    have := io.new; rw [e, ho] at this; cases this
  have hIc : ∀ n, env.cells.lookup n ≠ some I := fun n e => by
    obtain ⟨⟨v, o, ho, _⟩, _⟩ := f1.cells n I e
    have := io.new; rw [ho] at this; cases this
  have hIa : I ≠ a := fun e => by
    obtain ⟨_, _, _, vs, n, e0, _⟩ := o1
    have := io.new; rw [e, e0] at this; cases this
  have hIb : ∀ c, b = some c → c ≠ I := fun c q e => by
    obtain ⟨_, _, ob, _⟩ := o1
    have := io.new; rw [← e, ob c q] at this; cases this
  have hI0 : h₀.get? I = none := by
    cases e : h₀.get? I with
    | none => rfl
    | some o => have := io.new; rw [f1.keep _ _ e] at this; cases this
  have hfp : ∀ b ∈ fp, b ≠ env.locals ∧ (∀ n, env.cells.lookup n ≠ some b) ∧ b ≠ a := fun b hb => by
    rcases io.fp b hb with rfl | ⟨o', ho, xs, n, hd, hv⟩
    · exact ⟨hIL, hIc, hIa⟩
    · have hsq : Obj.seqLike o' = true := by unfold Obj.seqLike; rw [hd]
      obtain ⟨m, hm⟩ := f2.loc
      refine ⟨ns_not_seq hm ho hsq, fun n' e => ?_, fun e => ?_⟩
      · obtain ⟨⟨v, hv⟩, _⟩ := f2.cells n' b e
        exact cell_not_seq hv ho hsq rfl
      · obtain ⟨_, _, _, vs, n, e0, _⟩ := o
        have := fr b hv
        rw [e, e0] at this; cases this
  refine codeAny_forLoop (fun n s' => ∃ i ρ' dz, Kc env a s₁ s' ∧ Cx G sc env ρ' s' ∧ Fm env h₀ s'.heap ∧ Ow h₀ s'.heap a b dz ∧ St i s'.heap ∧ i ≤ ds'.length ∧ n = ds'.length + 1 - i ∧ Loo G k sc a b x body N Rt (ds'.drop i) ρ' dz) ?_ (ds'.length + 1)
    ⟨0, ρ, ds, io.k.kb.kc, c2, f2, o2, io.st, Nat.zero_le _, rfl, by simpa using hlo⟩
  rintro n s' ⟨i, ρ', dz, kb, c', f', ow', hst, hi', rfl, hl⟩
  have step : ∀ h₂ tk₂, s'.toks ≤ tk₂ → (∀ b o, b ∉ [I] → s'.heap.get? b = some o → h₂.get? b = some o) → Kc env a s₁ { s' with heap := h₂, toks := tk₂ } ∧ Cx G sc env ρ' { s' with heap := h₂, toks := tk₂ } ∧ Fm env h₀ h₂ ∧ Ow h₀ h₂ a b dz := by
    intro h₂ tk₂ htk hk
    have hkI : ∀ b o, b ≠ I → s'.heap.get? b = some o → h₂.get? b = some o := fun b o hb e => hk b o (fun q => hb (List.mem_singleton.mp q)) e
    have f3 : Fm env h₀ h₂ := ⟨fun b o e => hkI b o (fun q => by rw [q, hI0] at e; cases e) (f'.keep b o e), (let ⟨m, hm⟩ := f'.loc; ⟨m, hm.at' fun o e => hkI _ o (Ne.symm hIL) e⟩), f'.lnew,
      fun n c e => (let ⟨⟨v, o, ho, hd⟩, r⟩ := f'.cells n c e; ⟨⟨v, o, hkI _ _ (fun q => hIc n (q ▸ e)) ho, hd⟩, r⟩), f'.apart, f'.kinds⟩
    have ks : Ks s'.heap h₂ := fun b o e hsq => hkI b o (fun q => by
      obtain ⟨o', vs, ho', hd', hc'⟩ := io.iter _ _ hst
      rw [q, ho'] at e; cases e
      unfold Obj.seqLike at hsq; rw [hd'] at hsq
      rw [hc'] at hsq; cases hsq) e
    refine ⟨?_, c'.change ks (fun o e => hkI _ o (Ne.symm hIL) e) (fun n a o ha e => hkI _ o (fun q => hIc n (q ▸ ha)) e) (G.keeps f3.keep w0) (Nat.lt_of_lt_of_le c'.tk htk), f3, ?_⟩
    · obtain ⟨⟨h', tk', rfl⟩, b2, b3⟩ := kb
      exact ⟨⟨h₂, tk₂, rfl⟩, Nat.le_trans b2 htk, fun b o e h1 h2 h3 => hkI b o (fun q => by rw [q, io.new] at e; cases e) (b3 b o e h1 h2 h3)⟩
    · obtain ⟨p1, p2, p3, vs, n, e0, r0⟩ := ow'
      exact ⟨p1, p2, fun c q => hkI c _ (hIb c q) (p3 c q), vs, n, ks _ _ e0 rfl, r0.ks ks⟩
  by_cases hlt : i < ds'.length
  · refine wpAny_with_toks (n := s'.toks) (Nat.le_refl _) (W.item i s' _ _ hlt hst fun v' h₂ tk₂ hP hst₂ hk₂ htk₂ => ?_)
    obtain ⟨kb2, cx2, fm2, ow2⟩ := step h₂ tk₂ htk₂ hk₂
    obtain ⟨d, hd, rv⟩ := io.val i v' hP
    have hdrop : ds'.drop i = d :: ds'.drop (i + 1) := by
      rw [List.drop_eq_getElem_cons hlt]
      rw [List.getElem?_eq_getElem hlt] at hd
      rw [Option.some.inj hd]
    rw [hdrop] at hl
    have hnd : NoL d := hno d (List.mem_of_getElem? hd)
    obtain ⟨_, _, _, vs1, n1, e1, _⟩ := id o1
    have ktd : Kt s₁.heap h₂ := kb2.kt f1 e1
    refine wpAny_assign_Name (wpAny_mono (store_ok w0 cx2 fm2 (rv.kt ktd hnd) hx) (fun _ s₃ q => ?_) fun _ _ e => e.elim)
    obtain ⟨kb3, fm3, cx3⟩ := q
    have ow3 := ow2.kb (s := { s' with heap := h₂, toks := tk₂ }) fm2 kb3
    refine wpAny_mono (hl A env h₀ s₃ ao w0 cx3 fm3 ow3) (fun fl s₄ q => ?_) fun _ _ e => e.elim
    obtain ⟨kb4, fm4, q⟩ := q
    have kb34 := kb3.kc.trans kb4
    cases fl with
    | next =>
      obtain ⟨ρ₄, dz₄, hl4, cx4, ow4⟩ := q
      refine ⟨ds'.length + 1 - (i + 1), by omega, i + 1, ρ₄, dz₄, kb2.trans kb34, cx4, fm4, ow4, ?_, hlt, rfl, hl4⟩
      exact W.frame _ _ _ hst₂ fun b hb o e => kb34.2.2 b o e (hfp b hb).1 (hfp b hb).2.1 (hfp b hb).2.2
    | ret v => exact ⟨k1.kb.kc.trans (kb2.trans kb34), fm4, q⟩
    | brk => exact q.elim
    | cont => exact q.elim
  · have hin : i = ds'.length := by omega
    subst hin
    rw [List.drop_length] at hl
    refine wpAny_with_toks (n := s'.toks) (Nat.le_refl _) (W.done s' _ _ hst fun h₂ tk₂ hk₂ htk₂ => wpAny_execs_nil ?_)
    obtain ⟨kb2, cx2, fm2, ow2⟩ := step h₂ tk₂ htk₂ hk₂
    exact ⟨k1.kb.kc.trans kb2, fm2, ρ', dz, hl, cx2, ow2⟩
end
end Mine
end
section
set_option linter.unusedVariables false
namespace Mine
open PySem PyProof.Rows

/-! a call at the top: the counter of tokens may stand at 0 -/
theorem env_one {M : Model} {A : Around} {E : Value → Shared → Prop} {s : Shared} {scope : Scope} {globals : Addr} {x : Str} {v : Value} {qual : Str} {func : Option Addr} {code : Value} {builtins : Addr} {Q : Env → Shared → Prop}
    (hk : scope.kind = .function) (hx : scope.names.lookup x = some .local)
    (hQ : ∀ env, env = newEnv scope s.heap.objs.size globals (cellsFrom (s.heap.objs.size + 1) scope.names []) qual func code none builtins →
      ∀ s', InCallC s env.locals (bindL env.kindOf [(x, v)] fun _ => none) env.cells (bindC env.kindOf [(x, v)] fun _ => none) s' → 0 < s'.toks → Q env s') :
    wpAny M A (newFunctionEnv scope globals [] [(x, v)] qual func code none builtins) Q E s := by
  simp only [newFunctionEnv, Option.isSome_none, Bool.false_eq_true, if_false]
  refine wpAny_bind (wpAny_alloc (wpAny_bind (wpAny_layCells _ (fun name kind cells => by cases hkc : kind == NameKind.cell <;> simp [hkc]) _ _ _ _ ?_)))
  have ok := cellsFrom_ok scope.names (s.heap.push { cls := .type "frame", data := .dict #[] }) (s.heap.objs.size + 1) [] ⟨fun _ _ hm => (nomatch hm), List.Pairwise.nil⟩ (by rw [Heap.size_push]; exact Nat.le_refl _)
  rw [Heap.size_push] at ok
  rw [show ({ s with heap := s.heap.push { cls := .type "frame", data := .dict #[] } } : Shared).heap.objs.size = s.heap.objs.size + 1 from Heap.size_push ..]
  have x0 : InCallC s s.heap.objs.size (fun _ => none) (cellsFrom (s.heap.objs.size + 1) scope.names []) (fun _ => none) { s with heap := pushCells (s.heap.push { cls := .type "frame", data := .dict #[] }) scope.names } :=
    ⟨⟨⟨_, _, rfl⟩, (Heap.Ns.new s.heap (.type "frame")).keeps (pushCells_keeps _ _), fun b o e => pushCells_keeps _ _ b o (Heap.get?_push_of_some _ e), Nat.le_refl _⟩,
      fun n c hc => (ok.empty n c (mem_of_lookup hc)).1, ok.apart, fun n c hm => (ok.empty n c hm).2⟩
  refine wpAny_bind ?_
  rw [List.forIn_cons]
  refine wpAny_bind (wpAny_bind (wpAny_storeName_local hx x0.toInCall.ns (fun h' hn' hs' => ?_) (by show (scope.kind == .class || scope.kind == .module && _) = false; rw [hk]; rfl)))
  refine wpAny_pure ?_
  show wpAny _ _ (forIn ([] : List (Str × Value)) PUnit.unit _) _ _ _
  rw [List.forIn_nil]
  refine wpAny_pure (wpAny_pure ?_)
  refine hQ _ rfl _ ?_ (Nat.succ_pos _)
  have h1 : bindL (newEnv scope s.heap.objs.size globals (cellsFrom (s.heap.objs.size + 1) scope.names []) qual func code none builtins).kindOf [(x, v)] (fun _ => none) = fun y => if y = x then some v else none := if_pos hx
  have h2 : bindC (newEnv scope s.heap.objs.size globals (cellsFrom (s.heap.objs.size + 1) scope.names []) qual func code none builtins).kindOf [(x, v)] (fun _ => none) = fun _ => none := if_pos hx
  rw [h1, h2]
  refine ⟨⟨⟨_, _, rfl⟩, hn', fun b o e => hs'.extBut b o (Nat.ne_of_lt (Nat.lt_of_lt_of_le (Heap.lt_size e) x0.toInCall.fresh)) (x0.toInCall.keep b o e), x0.toInCall.fresh⟩, fun n c hc => ?_, x0.apart, x0.above⟩
  exact (x0.cell n c hc).sameBut hs' (Nat.ne_of_gt (x0.above n c (mem_of_lookup hc)))

theorem top_def {G : Gx} {k : Nat} {a : Addr} {o : Obj} {fd : FuncData} {body : List Stmt} {x : Str} {d : D} {K : D → Prop}
    (ho : ∀ h, G.W h → h.get? a = some o) (hdata : o.data = .func fd) (hcd : ∀ h, G.W h → h.CodeRec fd.code fd.qualname) (hbody : fd.body = .stmts body) (hclo : fd.closure = []) (hglo : fd.globals = mainGlobals) (hbui : fd.builtins = builtinsNs)
    (hbind : ∀ (s : Shared) v, BindsTo s fd ⟨[v], []⟩ [(x, v)])
    (hk : fd.scope.kind = .function) (hco : fd.scope.isCoroutine = false) (hgen : fd.scope.isGenerator = false) (hkinds : fd.scope.names.lookup x = some .local)
    (h : Ex G k fd.scope (fun y => ([x].zip [d]).lookup y) body (fun _ => K .none) K) : ∀ A s v, AOk (k + 1) A → G.W s.heap → Rep s.heap v d → wpAny (M G) A (call (.ref a) [v]) (Po s K) No s := fun A s v ao w rv => by
  refine wpAny_call ?_
  have hd : A.depth < recursionLimit := by have := ao.2.1; omega
  refine codeAny_call_function hd (ho _ w) hdata hco hgen hbody (hcd _ w) (hbind s v _ _ _ _ ?_)
  rw [hclo]
  refine wpAny_with_toks (n := s.toks) (Nat.le_refl _) (env_one hk hkinds fun env he s₁ x1 htp htk => ?_)
  have e1 : env.locals = s.heap.objs.size := by rw [he]; rfl
  have e2 : env.scope = fd.scope := by rw [he]; rfl
  have e3 : env.globals = mainGlobals := by rw [he]; exact hglo
  have e4 : env.builtins = builtinsNs := by rw [he]; exact hbui
  have e5 : env.cells = cellsFrom (s.heap.objs.size + 1) fd.scope.names [] := by rw [he]; rfl
  have keep : Kp s.heap s₁.heap := x1.toInCall.keep
  have hkd : ∀ n, env.kindOf n = fd.scope.names.lookup n := fun n => by show env.scope.names.lookup n = _; rw [e2]
  refine ⟨(G.lim w).keeps keep, codeAny_func ?_⟩
  have ao' : AOk k (A.deeper env) := ⟨ao.1, by show A.depth + 1 + k < _; have := ao.2.1; omega, by show A.units + 3 + 10 * k < _; have := ao.2.2; omega⟩
  have cx : Cx G fd.scope env (fun y => ([x].zip [d]).lookup y) s₁ := by
    refine ⟨e2, e3, e4, hk, G.keeps keep w, htp, fun y dd e => ?_⟩
    obtain ⟨u, hu, r⟩ := zip_rep [x] (RepAll.cons rv .nil) e
    have hy : y ∈ [x] := (List.of_mem_zip (lookup_mem e)).1
    rw [List.mem_singleton] at hy
    subst hy
    exact ⟨u, r.kp keep, .loc _ (by rw [hkd]; exact hkinds) x1.toInCall.ns (bindL_get [y] [v] _ (by simp) hu (by rw [hkd]; exact hkinds))⟩
  have fm : Fm env s.heap s₁.heap := by
    refine ⟨keep, ⟨_, x1.toInCall.ns⟩, by rw [e1]; exact get_size _, fun n c e => ⟨⟨_, x1.cell n c e⟩, ?_⟩, fun n n' c e e' => name_of_addr x1.apart (mem_of_lookup e) (mem_of_lookup e'), fun n e => ?_⟩
    · have hc := x1.above n c (mem_of_lookup e)
      rw [e1] at hc
      cases q : s.heap.get? c with
      | none => rfl
      | some o => exact absurd (Heap.lt_size q) (Nat.not_lt.mpr (Nat.le_of_lt hc))
    · rw [hkd] at e
      have hs := cellsFrom_has (x := n) fd.scope.names (s.heap.objs.size + 1) [] (.inl e)
      rw [e5]
      exact Option.isSome_iff_exists.mp hs
  refine wpAny_mono (h (A.deeper env) env s.heap s₁ ao' w cx fm) (fun fl s₂ q => ?_) fun _ _ e => e.elim
  obtain ⟨kb, fm2, q⟩ := q
  have kk : Kk s s₂ := by
    obtain ⟨hh, tk1, e⟩ := x1.toInCall.same
    obtain ⟨⟨h2, tk2, e'⟩, b2, _⟩ := kb
    refine ⟨⟨h2, tk2, by rw [e', e], ?_⟩, Nat.le_trans htk b2⟩
    have := fm2.keep
    rw [e'] at this
    exact this
  cases fl with
  | next => obtain ⟨ρ', hN, _⟩ := q; exact ⟨kk, _, hN, .none⟩
  | ret v => exact ⟨kk, q⟩
  | brk => exact q.elim
  | cont => exact q.elim
end Mine
end
section
open PySem PySem.W PyProof.Rows
set_option Elab.async false
set_option maxRecDepth 100000
set_option maxHeartbeats 0
namespace Mine

abbrev PR : Program := PySem.Challenge.pw_re0086_01
noncomputable def sts (i : Nat) : List Stmt := (PR.main.body.drop i).take 1
noncomputable def comp5 : PySem.Expr := match sts 5 with | (.Assign _ e _) :: _ => e | _ => default
noncomputable def scope5 : Scope := match comp5 with | .ListComp _ _ s _ => s | _ => PR.main.scope
noncomputable def env0 : Env := { scope := PR.main.scope, locals := 3, globals := 3, cells := [], code := .ref 13, frame := some 14 }
noncomputable def env5 : Env := { scope := scope5, locals := 25, globals := 3, cells := [], code := .ref 13, frame := some 14 }
noncomputable def life0 : Life := Life.mk [] [] [] 0 [] [] false #[] [] 0 false false false 0 [2000,10,10] false 0 true [] [] 0 false
noncomputable def mkT (f : Nat → Obj) (n : Nat) : Nat → Nat → Nat → BT
  | 0, _, _ => .nil
  | k+1, a, b => if b < n then .node (f b) (mkT f n k (2*a) (a+b)) (mkT f n k (2*a) (2*a+b)) else .nil
noncomputable def code5 : Code := .compLoop comp5 0 (.ref 23) (.ref 24) env5
noncomputable def pos5 : Pos := { line := 33, col := 15, endLine := 33, endCol := 26 }
noncomputable def posI : Pos := { line := 33, col := 36, endLine := 33, endCol := 46 }
noncomputable def pos00 : Pos := ⟨0,0,0,0⟩
noncomputable abbrev sgo := @PySem.W.Fast.tw10295753902157049106
noncomputable abbrev tbl := @PySem.W.Fast.tw14364793385576792824
noncomputable def bodyE : Code := .body (behindTheImports PR) env0
noncomputable def thr5 (k : Result → Sem Fin) (ps : Pos) : Thread := ⟨@PySem.W.Fast.tw11892475500146522536 tbl code5, code5, ps, [.ret k none true [.ref 25, .ref 24] bodyE posI [], topFrame pos00]⟩
noncomputable def cs : Str := ⟨#[99]⟩

noncomputable abbrev tyRI := PySem.W.SL.s15992201931430999065x14
noncomputable abbrev tyL := PySem.W.SL.s9222952809800978799x4
noncomputable abbrev tyD := PySem.W.SL.s14018661285674007319x4
noncomputable def hx (d : Nat) : Nat := if d < 10 then 48 + d else 55 + d
noncomputable def v0 (j : Nat) : Value := .str ⟨⟨[61, hx (j / 16), hx (j % 16)]⟩⟩ (213 + 4 * j)
noncomputable def mkL (v : Nat → Value) : Nat → Nat → List Value
  | 0, _ => []
  | n+1, j => v j :: mkL v n (j+1)
noncomputable def A5 (P : Params) (rest : Nat → Obj) (i : Nat) (os : OsState) : SharedT :=
  ⟨mkT (fun n => if n = 23 then { cls := .type tyRI, data := .fields #[.int i 0, .int (256 - i) 0, .int 1 0] }
    else if n = 24 then { cls := .type tyL, data := .seq ⟨mkL v0 i 0⟩ i }
    else if n = 25 then { cls := .type tyD, data := .dict #[{ hash := PyData.keyHash P cs, key := .str cs 211, val := .int (i - 1) (206 + 4 * i) }] 1 }
    else rest n) 26 6 1 0, 26, life0, #[], {}, 210 + 4 * i, os⟩


noncomputable def ent (P : Params) (s : List Nat) (t : Nat) (v : Value) : DictEntry := { hash := PyData.keyHash P ⟨⟨s⟩⟩, key := .str ⟨⟨s⟩⟩ t, val := v }
noncomputable def globL (P : Params) (gv : Nat → Value) (c : Value) : List DictEntry := [
  ent P [95, 95, 110, 97, 109, 101, 95, 95] 165 (gv 0),
  ent P [95, 95, 100, 111, 99, 95, 95] 166 (gv 1),
  ent P [95, 95, 112, 97, 99, 107, 97, 103, 101, 95, 95] 167 (gv 2),
  ent P [95, 95, 108, 111, 97, 100, 101, 114, 95, 95] 168 (gv 3),
  ent P [95, 95, 115, 112, 101, 99, 95, 95] 169 (gv 4),
  ent P [95, 95, 97, 110, 110, 111, 116, 97, 116, 105, 111, 110, 115, 95, 95] 170 (gv 5),
  ent P [95, 95, 98, 117, 105, 108, 116, 105, 110, 115, 95, 95] 171 (gv 6),
  ent P [95, 95, 102, 105, 108, 101, 95, 95] 173 (gv 7),
  ent P [95, 95, 99, 97, 99, 104, 101, 100, 95, 95] 174 (gv 8),
  ent P [69, 76, 76, 73, 80, 83, 73, 83, 95, 77, 65, 82, 75, 69, 82] 190 (gv 9),
  ent P [95, 101, 108, 108, 105, 112, 115, 105, 115, 95, 109, 97, 116, 99, 104] 202 (gv 10),
  ent P [67, 82, 76, 70] 204 (gv 11),
  ent P [78, 76] 206 (gv 12),
  ent P [95, 81, 85, 79, 80, 82, 73, 95, 77, 65, 80] 1234 (gv 13),
  ent P [95, 81, 85, 79, 80, 82, 73, 95, 72, 69, 65, 68, 69, 82, 95, 77, 65, 80] 1235 (.ref 29),
  ent P [95, 81, 85, 79, 80, 82, 73, 95, 66, 79, 68, 89, 95, 77, 65, 80] 1236 (.ref 31),
  ent P [97, 115, 99, 105, 105, 95, 108, 111, 119, 101, 114, 99, 97, 115, 101] 1238 (gv 16),
  ent P [97, 115, 99, 105, 105, 95, 117, 112, 112, 101, 114, 99, 97, 115, 101] 1240 (gv 17),
  ent P [97, 115, 99, 105, 105, 95, 108, 101, 116, 116, 101, 114, 115] 1242 (gv 18),
  ent P [100, 105, 103, 105, 116, 115] 1244 (gv 19),
  ent P [99] 1255 c]
noncomputable def glob (P : Params) (gv : Nat → Value) (c : Value) : Obj := { cls := .type tyD, data := .dict ⟨globL P gv c⟩ 21 }

noncomputable abbrev tyBI := PySem.W.SL.s1378417608194177226x14
noncomputable def st13 : List Stmt := sts 13
noncomputable def for13 : Code := match sts 13 with | (.For t _ b o _) :: _ => .forLoop t (.ref 32) b o env0 | _ => code5
noncomputable def for15 : Code := match sts 15 with | (.For t _ b o _) :: _ => .forLoop t (.ref 35) b o env0 | _ => code5
noncomputable def pos13 : Pos := { line := 42, col := 4, endLine := 42, endCol := 25 }
noncomputable def posJ13 : Pos := { line := 41, col := 9, endLine := 41, endCol := 74 }
noncomputable def pos15 : Pos := { line := 45, col := 4, endLine := 45, endCol := 23 }
noncomputable def posJ15 : Pos := { line := 44, col := 9, endLine := 44, endCol := 110 }
noncomputable def thr13 (k : Result → Sem Fin) (ps : Pos) : Thread := ⟨@PySem.W.Fast.tw11892475500146522536 tbl for13, for13, ps, [.ret k none false [] bodyE posJ13 [], topFrame pos00]⟩
noncomputable def thr15 (k : Result → Sem Fin) (ps : Pos) : Thread := ⟨@PySem.W.Fast.tw11892475500146522536 tbl for15, for15, ps, [.ret k none false [] bodyE posJ15 [], topFrame pos00]⟩
noncomputable def bs13 : List UInt8 := [45, 33, 42, 43, 47, 97, 98, 99, 100, 101, 102, 103, 104, 105, 106, 107, 108, 109, 110, 111, 112, 113, 114, 115, 116, 117, 118, 119, 120, 121, 122, 65, 66, 67, 68, 69, 70, 71, 72, 73, 74, 75, 76, 77, 78, 79, 80, 81, 82, 83, 84, 85, 86, 87, 88, 89, 90, 48, 49, 50, 51, 52, 53, 54, 55, 56, 57]
noncomputable def bs15 : List UInt8 := [32, 33, 34, 35, 36, 37, 38, 39, 40, 41, 42, 43, 44, 45, 46, 47, 48, 49, 50, 51, 52, 53, 54, 55, 56, 57, 58, 59, 60, 62, 63, 64, 65, 66, 67, 68, 69, 70, 71, 72, 73, 74, 75, 76, 77, 78, 79, 80, 81, 82, 83, 84, 85, 86, 87, 88, 89, 90, 91, 92, 93, 94, 95, 96, 97, 98, 99, 100, 101, 102, 103, 104, 105, 106, 107, 108, 109, 110, 111, 112, 113, 114, 115, 116, 117, 118, 119, 120, 121, 122, 123, 124, 125, 126, 9]
noncomputable def ix13 (j : Nat) : Nat := if j < 48 then (if j = 45 then 0 else if j = 33 then 1 else if j = 42 then 2 else if j = 43 then 3 else if j = 47 then 4 else 1000) else if j < 58 then j + 9 else if j < 65 then 1000 else if j < 91 then j - 34 else if j < 97 then 1000 else if j < 123 then j - 92 else 1000
noncomputable def ix15 (j : Nat) : Nat := if j < 32 then (if j = 9 then 94 else 1000) else if j < 61 then j - 32 else if j < 62 then 1000 else if j < 127 then j - 33 else 1000
noncomputable def hv (ix : Nat → Nat) (t0 : Nat) (lv : Nat → Value) (i j : Nat) : Value := if ix j < i then .str ⟨⟨[j]⟩⟩ (t0 + 3 * ix j) else lv j
noncomputable def B13 (P : Params) (rest : Nat → Obj) (gv lv : Nat → Value) (i : Nat) (os : OsState) : SharedT :=
  ⟨mkT (fun n => if n = 0 then boot_o_0 P else if n = 3 then glob P gv (.int (bs13.getD (i - 1) 0).toNat (1251 + 3 * i))
    else if n = 29 then { cls := .type tyL, data := .seq ⟨mkL (hv ix13 1256 lv i) 256 0⟩ 0 }
    else if n = 32 then { cls := .type tyBI, data := .fields ⟨[.bytes ⟨bs13⟩ 1253, .int i 0]⟩ }
    else rest n) 33 6 1 0, 33, life0, #[], {}, 1254 + 3 * i, os⟩
noncomputable def B15 (P : Params) (rest : Nat → Obj) (gv lv : Nat → Value) (i : Nat) (os : OsState) : SharedT :=
  ⟨mkT (fun n => if n = 0 then boot_o_0 P else if n = 3 then glob P gv (.int (bs15.getD (i - 1) 0).toNat (1456 + 3 * i))
    else if n = 31 then { cls := .type tyL, data := .seq ⟨mkL (hv ix15 1461 lv i) 256 0⟩ 0 }
    else if n = 35 then { cls := .type tyBI, data := .fields ⟨[.bytes ⟨bs15⟩ 1458, .int i 0]⟩ }
    else rest n) 36 6 1 0, 36, life0, #[], {}, 1459 + 3 * i, os⟩
end Mine
end
section
open PySem PySem.W PyProof.Rows
set_option Elab.async false
set_option maxRecDepth 100000
set_option maxHeartbeats 0
namespace Mine
noncomputable abbrev tGo := @PySem.W.Fast.tw15667345088766844465
noncomputable abbrev sRun := @PySem.W.Fast.tw10110043849684766642
noncomputable abbrev sRunS := @PySem.W.Fast.tw14374325043358763698
noncomputable abbrev dnt := @PySem.W.Fast.tw11892475500146522536
noncomputable abbrev exT := @PySem.W.Fast.tw12563942051412417395
noncomputable abbrev ann6 : Option Value := some (.ref 6)
noncomputable def W0 (P : Params) : World := ((⟨fun _ _ => 0, P⟩ : World).withFollow "special-get-raises" false).withFollow "comprehension-iter-twice" false
noncomputable def os0 : OsState := (start PR).1.os
noncomputable def S0 (P : Params) (os : OsState) : Shared := ⟨boot_heap P, ⟨[]⟩, boot_drawn, boot_toks, os⟩
noncomputable def topB : Thread := ⟨dnt tbl bodyE, bodyE, pos00, [topFrame pos00]⟩
noncomputable def Sa (P : Params) : Shared := match tGo tbl PR (W0 P) 11 ann6 12 (S0 P os0) (topStub PR) with | some (s, _) => s | none => S0 P os0
noncomputable def objAt (s : Shared) (P : Params) (n : Nat) : Obj := (s.heap.objs[n]?).getD (boot_o_0 P)
noncomputable def Sb (P : Params) (os : OsState) : SharedT := ⟨mkT (objAt (Sa P) P) 15 7 1 0, 15, life0, ⟨[]⟩, {}, 187, os⟩
theorem c_pre (w : World) : (fun os => tGo tbl PR w 11 ann6 12 (S0 w.params os) (topStub PR)) = fun os => some ((Sb w.params os).abs, topB) := by kernel_rfl
noncomputable def grp (i n : Nat) : List Stmt := ((behindTheImports PR).drop i).take n
noncomputable def pcs (l : List Stmt) (ps : Pos) : Thread := ⟨(exT l env0).wrap doneF deadEnd id id, bodyE, ps, [topFrame pos00]⟩
noncomputable def resS (d : SharedT) : Option (Flow × SharedT × Code × Pos) → SharedT | some (_, s, _, _) => s | none => d
noncomputable def p4 : Pos := { line := 32, col := 0, endLine := 32, endCol := 2 }
noncomputable def S4 (P : Params) (os : OsState) : SharedT := resS (Sb P os) (sRun tbl PR (W0 P) 11 ann6 1 80 (Sb P os) (pcs (grp 0 5) pos00))
theorem c_4 (w : World) (os : OsState) : sRun tbl PR w 11 ann6 1 80 (Sb w.params os) (pcs (grp 0 5) pos00) = some (.next, S4 w.params os, bodyE, p4) := by kernel_rfl
end Mine
end
section
open PySem PySem.W PyProof.Rows
set_option Elab.async false
set_option maxRecDepth 100000
set_option maxHeartbeats 0
namespace Mine
noncomputable def frK : Option (SharedT × Thread) → Result → Sem Fin
  | some (_, ⟨_, _, _, (.ret k _ _ _ _ _ _) :: _⟩) => k
  | _ => fun _ => .unsupported ""
noncomputable def stT (d : SharedT) : Option (SharedT × Thread) → SharedT | some (s, _) => s | none => d
noncomputable def p5 : Pos := { line := 33, col := 0, endLine := 33, endCol := 11 }
noncomputable def go5 (w : World) (n : Nat) (os : OsState) := sgo tbl PR w 11 ann6 1 n (S4 w.params os) (pcs (grp 5 1) p4)
noncomputable def rest5 (P : Params) (n : Nat) : Obj := ((stT (S4 P os0) (go5 (W0 P) 89 os0)).tree.get n).getD (boot_o_0 P)
noncomputable def S5 (P : Params) (os : OsState) : SharedT := resS (S4 P os) (sRun tbl PR (W0 P) 11 ann6 1 60 (A5 P (rest5 P) 256 os) (thr5 (frK (go5 (W0 P) 89 os0)) pos5))

def Q5 (n : Nat) (w : World) : Prop := ∀ os : OsState, go5 w n os = some (A5 w.params (rest5 w.params) 1 os, thr5 (frK (go5 w n os)) pos5) ∧
  sRun tbl PR w 11 ann6 1 60 (A5 w.params (rest5 w.params) 256 os) (thr5 (frK (go5 w n os)) pos5) = some (.next, S5 w.params os, bodyE, p5)
theorem q5a (w : World) : Q5 89 ((w.withFollow "special-get-raises" false).withFollow "comprehension-iter-twice" false) := fun os => ⟨by kernel_rfl, by kernel_rfl⟩
theorem q5b (w : World) : Q5 89 ((w.withFollow "special-get-raises" true).withFollow "comprehension-iter-twice" false) := fun os => ⟨by kernel_rfl, by kernel_rfl⟩
theorem q5c (w : World) : Q5 79 ((w.withFollow "special-get-raises" false).withFollow "comprehension-iter-twice" true) := fun os => ⟨by kernel_rfl, by kernel_rfl⟩
theorem q5d (w : World) : Q5 79 ((w.withFollow "special-get-raises" true).withFollow "comprehension-iter-twice" true) := fun os => ⟨by kernel_rfl, by kernel_rfl⟩
def Q5s (w : World) : Prop := Q5 89 w ∨ Q5 79 w
theorem q5 (w : World) : Q5s w := byRow2 "comprehension-iter-twice" (P := Q5s)
  (fun w => byRow2 "special-get-raises" (P := fun w => Q5s (w.withFollow "comprehension-iter-twice" false)) (fun w => .inl (q5a w)) (fun w => .inl (q5b w)) w)
  (fun w => byRow2 "special-get-raises" (P := fun w => Q5s (w.withFollow "comprehension-iter-twice" true)) (fun w => .inr (q5c w)) (fun w => .inr (q5d w)) w) w
noncomputable def p12 : Pos := { line := 40, col := 0, endLine := 40, endCol := 8 }
noncomputable def S12 (P : Params) (os : OsState) : SharedT := resS (S5 P os) (sRun tbl PR (W0 P) 11 ann6 1 120 (S5 P os) (pcs (grp 6 7) p5))
theorem c_12 (w : World) (os : OsState) : sRun tbl PR w 11 ann6 1 120 (S5 w.params os) (pcs (grp 6 7) p5) = some (.next, S12 w.params os, bodyE, p12) := by kernel_rfl
end Mine
end
section
open PySem PySem.W PyProof.Rows
set_option Elab.async false
set_option maxRecDepth 100000
set_option maxHeartbeats 0
namespace Mine
noncomputable def gvOf (o : Option Obj) (j : Nat) : Value := match o with
  | some o => (match o.data with | .dict a _ => ((a[j]?).map (·.val)).getD .none | _ => .none)
  | none => .none
noncomputable def go13 (w : World) (os : OsState) := sgo tbl PR w 11 ann6 1 89 (S12 w.params os) (pcs (grp 13 1) p12)
noncomputable def rest13 (P : Params) (n : Nat) : Obj := ((stT (S12 P os0) (go13 (W0 P) os0)).tree.get n).getD (boot_o_0 P)
noncomputable def gv13 (P : Params) : Nat → Value := gvOf ((stT (S12 P os0) (go13 (W0 P) os0)).tree.get 3)
noncomputable def S13 (P : Params) (os : OsState) : SharedT := resS (S12 P os) (sRun tbl PR (W0 P) 11 ann6 1 40 (B13 P (rest13 P) (gv13 P) v0 67 os) (thr13 (frK (go13 (W0 P) os0)) pos13))
def Q13 (w : World) : Prop := ∀ os : OsState, go13 w os = some (B13 w.params (rest13 w.params) (gv13 w.params) v0 1 os, thr13 (frK (go13 w os)) pos13) ∧
  sRun tbl PR w 11 ann6 1 40 (B13 w.params (rest13 w.params) (gv13 w.params) v0 67 os) (thr13 (frK (go13 w os)) pos13) = some (.next, S13 w.params os, bodyE, posJ13)
theorem q13a (w : World) : Q13 (w.withFollow "special-get-raises" false) := fun os => ⟨by kernel_rfl, by kernel_rfl⟩
theorem q13b (w : World) : Q13 (w.withFollow "special-get-raises" true) := fun os => ⟨by kernel_rfl, by kernel_rfl⟩
theorem q13 (w : World) : Q13 w := byRow2 "special-get-raises" (P := Q13) q13a q13b w
noncomputable def p14 : Pos := { line := 43, col := 0, endLine := 43, endCol := 28 }
noncomputable def S14 (P : Params) (os : OsState) : SharedT := resS (S13 P os) (sRun tbl PR (W0 P) 11 ann6 1 30 (S13 P os) (pcs (grp 14 1) posJ13))
theorem c_14 (w : World) (os : OsState) : sRun tbl PR w 11 ann6 1 30 (S13 w.params os) (pcs (grp 14 1) posJ13) = some (.next, S14 w.params os, bodyE, p14) := by kernel_rfl
noncomputable def go15 (w : World) (os : OsState) := sgo tbl PR w 11 ann6 1 55 (S14 w.params os) (pcs (grp 15 1) p14)
noncomputable def rest15 (P : Params) (n : Nat) : Obj := ((stT (S14 P os0) (go15 (W0 P) os0)).tree.get n).getD (boot_o_0 P)
noncomputable def gv15 (P : Params) : Nat → Value := gvOf ((stT (S14 P os0) (go15 (W0 P) os0)).tree.get 3)
noncomputable def S15 (P : Params) (os : OsState) : SharedT := resS (S14 P os) (sRun tbl PR (W0 P) 11 ann6 1 40 (B15 P (rest15 P) (gv15 P) v0 95 os) (thr15 (frK (go15 (W0 P) os0)) pos15))
def Q15 (w : World) : Prop := ∀ os : OsState, go15 w os = some (B15 w.params (rest15 w.params) (gv15 w.params) v0 1 os, thr15 (frK (go15 w os)) pos15) ∧
  sRun tbl PR w 11 ann6 1 40 (B15 w.params (rest15 w.params) (gv15 w.params) v0 95 os) (thr15 (frK (go15 w os)) pos15) = some (.next, S15 w.params os, bodyE, posJ15)
theorem q15a (w : World) : Q15 (w.withFollow "special-get-raises" false) := fun os => ⟨by kernel_rfl, by kernel_rfl⟩
theorem q15b (w : World) : Q15 (w.withFollow "special-get-raises" true) := fun os => ⟨by kernel_rfl, by kernel_rfl⟩
theorem q15 (w : World) : Q15 w := byRow2 "special-get-raises" (P := Q15) q15a q15b w
end Mine
end
section
open PySem PySem.W PyProof.Rows
set_option Elab.async false
set_option maxRecDepth 100000
set_option maxHeartbeats 0
namespace Mine
noncomputable def p30 : Pos := { line := 140, col := 0, endLine := 173, endCol := 15 }
noncomputable def S30 (P : Params) (os : OsState) : SharedT := resS (S15 P os) (sRun tbl PR (W0 P) 11 ann6 1 520 (S15 P os) (pcs (grp 16 15) posJ15))
def Q30 (w : World) : Prop := ∀ os : OsState, sRun tbl PR w 11 ann6 1 520 (S15 w.params os) (pcs (grp 16 15) posJ15) = some (.next, S30 w.params os, bodyE, p30)
theorem q30a (w : World) : Q30 (w.withFollow "special-get-raises" false) := fun os => by kernel_rfl
theorem q30b (w : World) : Q30 (w.withFollow "special-get-raises" true) := fun os => by kernel_rfl
theorem q30 (w : World) : Q30 w := byRow2 "special-get-raises" (P := Q30) q30a q30b w
noncomputable def H1 (P : Params) : Heap := (S30 P os0).abs.heap
theorem c_last (P : Params) (os : OsState) : (S30 P os).abs = ⟨H1 P, ⟨[]⟩, {}, 1857, os⟩ := by kernel_rfl
theorem c_fin (w : World) (os : OsState) : topRun tbl PR w 11 ann6 3 (S30 w.params os).abs ⟨doneF .next, bodyE, p30, [topFrame pos00]⟩ = some (S30 w.params os).abs := by kernel_rfl
theorem c_all : behindTheImports PR = grp 0 5 ++ (grp 5 1 ++ (grp 6 7 ++ (grp 13 1 ++ (grp 14 1 ++ (grp 15 1 ++ (grp 16 15 ++ [])))))) := by kernel_rfl
end Mine
end
section
open PySem PySem.W PyProof.Rows
set_option Elab.async false
set_option maxRecDepth 100000
set_option maxHeartbeats 0
namespace Mine
def T5 (i m : Nat) (w : World) : Prop := ∀ (os : OsState) (rest : Nat → Obj) (k : Result → Sem Fin), sgo tbl PR w 11 (some (.ref 6)) 1 (37 * m) (A5 w.params rest i os) (thr5 k pos5) = some (A5 w.params rest (i + m) os, thr5 k pos5)
def T13 (i m : Nat) (w : World) : Prop := ∀ (os : OsState) (rest : Nat → Obj) (gv lv : Nat → Value) (k : Result → Sem Fin), sgo tbl PR w 11 (some (.ref 6)) 1 (45 * m) (B13 w.params rest gv lv i os) (thr13 k pos13) = some (B13 w.params rest gv lv (i + m) os, thr13 k pos13)
def T15 (i m : Nat) (w : World) : Prop := ∀ (os : OsState) (rest : Nat → Obj) (gv lv : Nat → Value) (k : Result → Sem Fin), sgo tbl PR w 11 (some (.ref 6)) 1 (45 * m) (B15 w.params rest gv lv i os) (thr15 k pos15) = some (B15 w.params rest gv lv (i + m) os, thr15 k pos15)
theorem go_add {tb : String → Option Builtin} {p : Program} {w : World} {n₀ : Nat} {ann : Option Value} {b : Nat} : ∀ {n m : Nat} {s s' : SharedT} {t t' : Thread} {r : SharedT × Thread},
    segGoT tb p w n₀ ann b n s t = some (s', t') → segGoT tb p w n₀ ann b m s' t' = some r → segGoT tb p w n₀ ann b (n + m) s t = some r
  | 0, m, s, s', t, t', r, h, k => by
    obtain ⟨rfl, rfl⟩ : s = s' ∧ t = t' := by simpa [segGoT] using h
    rw [Nat.zero_add]; exact k
  | n + 1, m, s, s', t, t', r, h, k => by
    rw [show n + 1 + m = n + m + 1 by omega]
    unfold segGoT at h ⊢
    cases he : endAt b t with
    | some f => rw [he] at h; cases h
    | none =>
      rw [he] at h
      cases hk : stepOk n₀ ann t with
      | false => rw [hk] at h; cases h
      | true =>
        rw [hk] at h
        cases hs : stepT (denote tb) p w s t with
        | none => rw [hs] at h; cases h
        | some q => obtain ⟨s₂, t₂⟩ := q; rw [hs] at h; exact go_add h k
theorem sgo_eq : @segGoT = sgo := PySem.W.Fast.te10295753902157049106
theorem sgo_add {p : Program} {w : World} {n₀ : Nat} {ann : Option Value} {b : Nat} {n m : Nat} {s s' : SharedT} {t t' : Thread} {r : SharedT × Thread}
    (h : sgo tbl p w n₀ ann b n s t = some (s', t')) (k : sgo tbl p w n₀ ann b m s' t' = some r) : sgo tbl p w n₀ ann b (n + m) s t = some r := by
  rw [← sgo_eq] at h k ⊢; exact go_add h k
theorem T5.add {i m m' : Nat} {w : World} (h : T5 i m w) (k : T5 (i + m) m' w) : T5 i (m + m') w := fun os rest c => by
  have := sgo_add (h os rest c) (k os rest c); rw [Nat.mul_add, ← Nat.add_assoc i m m']; exact this
theorem T13.add {i m m' : Nat} {w : World} (h : T13 i m w) (k : T13 (i + m) m' w) : T13 i (m + m') w := fun os rest gv lv c => by
  have := sgo_add (h os rest gv lv c) (k os rest gv lv c); rw [Nat.mul_add, ← Nat.add_assoc i m m']; exact this
theorem T15.add {i m m' : Nat} {w : World} (h : T15 i m w) (k : T15 (i + m) m' w) : T15 i (m + m') w := fun os rest gv lv c => by
  have := sgo_add (h os rest gv lv c) (k os rest gv lv c); rw [Nat.mul_add, ← Nat.add_assoc i m m']; exact this
theorem t5_1_t (w : World) : T5 1 15 (w.withFollow "special-get-raises" true) := by
  intro os rest k; kernel_rfl
theorem t5_16_t (w : World) : T5 16 15 (w.withFollow "special-get-raises" true) := by
  intro os rest k; kernel_rfl
theorem t5_31_t (w : World) : T5 31 15 (w.withFollow "special-get-raises" true) := by
  intro os rest k; kernel_rfl
theorem t5_46_t (w : World) : T5 46 15 (w.withFollow "special-get-raises" true) := by
  intro os rest k; kernel_rfl
theorem t5_61_t (w : World) : T5 61 15 (w.withFollow "special-get-raises" true) := by
  intro os rest k; kernel_rfl
theorem t5_76_t (w : World) : T5 76 15 (w.withFollow "special-get-raises" true) := by
  intro os rest k; kernel_rfl
theorem t5_91_t (w : World) : T5 91 15 (w.withFollow "special-get-raises" true) := by
  intro os rest k; kernel_rfl
theorem t5_106_t (w : World) : T5 106 15 (w.withFollow "special-get-raises" true) := by
  intro os rest k; kernel_rfl
theorem t5_121_t (w : World) : T5 121 15 (w.withFollow "special-get-raises" true) := by
  intro os rest k; kernel_rfl
theorem t5_136_t (w : World) : T5 136 15 (w.withFollow "special-get-raises" true) := by
  intro os rest k; kernel_rfl
theorem t5_151_t (w : World) : T5 151 15 (w.withFollow "special-get-raises" true) := by
  intro os rest k; kernel_rfl
theorem t5_166_t (w : World) : T5 166 15 (w.withFollow "special-get-raises" true) := by
  intro os rest k; kernel_rfl
theorem t5_181_t (w : World) : T5 181 15 (w.withFollow "special-get-raises" true) := by
  intro os rest k; kernel_rfl
theorem t5_196_t (w : World) : T5 196 15 (w.withFollow "special-get-raises" true) := by
  intro os rest k; kernel_rfl
theorem t5_211_t (w : World) : T5 211 15 (w.withFollow "special-get-raises" true) := by
  intro os rest k; kernel_rfl
theorem t5_226_t (w : World) : T5 226 15 (w.withFollow "special-get-raises" true) := by
  intro os rest k; kernel_rfl
theorem t5_241_t (w : World) : T5 241 15 (w.withFollow "special-get-raises" true) := by
  intro os rest k; kernel_rfl
theorem l5_t (w : World) : T5 1 255 (w.withFollow "special-get-raises" true) := (T5.add (T5.add (T5.add (T5.add (T5.add (T5.add (T5.add (T5.add (T5.add (T5.add (T5.add (T5.add (T5.add (T5.add (T5.add (T5.add (t5_1_t w) (t5_16_t w)) (t5_31_t w)) (t5_46_t w)) (t5_61_t w)) (t5_76_t w)) (t5_91_t w)) (t5_106_t w)) (t5_121_t w)) (t5_136_t w)) (t5_151_t w)) (t5_166_t w)) (t5_181_t w)) (t5_196_t w)) (t5_211_t w)) (t5_226_t w)) (t5_241_t w))
theorem t5_1_f (w : World) : T5 1 15 (w.withFollow "special-get-raises" false) := by
  intro os rest k; kernel_rfl
theorem t5_16_f (w : World) : T5 16 15 (w.withFollow "special-get-raises" false) := by
  intro os rest k; kernel_rfl
theorem t5_31_f (w : World) : T5 31 15 (w.withFollow "special-get-raises" false) := by
  intro os rest k; kernel_rfl
theorem t5_46_f (w : World) : T5 46 15 (w.withFollow "special-get-raises" false) := by
  intro os rest k; kernel_rfl
theorem t5_61_f (w : World) : T5 61 15 (w.withFollow "special-get-raises" false) := by
  intro os rest k; kernel_rfl
theorem t5_76_f (w : World) : T5 76 15 (w.withFollow "special-get-raises" false) := by
  intro os rest k; kernel_rfl
theorem t5_91_f (w : World) : T5 91 15 (w.withFollow "special-get-raises" false) := by
  intro os rest k; kernel_rfl
theorem t5_106_f (w : World) : T5 106 15 (w.withFollow "special-get-raises" false) := by
  intro os rest k; kernel_rfl
theorem t5_121_f (w : World) : T5 121 15 (w.withFollow "special-get-raises" false) := by
  intro os rest k; kernel_rfl
theorem t5_136_f (w : World) : T5 136 15 (w.withFollow "special-get-raises" false) := by
  intro os rest k; kernel_rfl
theorem t5_151_f (w : World) : T5 151 15 (w.withFollow "special-get-raises" false) := by
  intro os rest k; kernel_rfl
theorem t5_166_f (w : World) : T5 166 15 (w.withFollow "special-get-raises" false) := by
  intro os rest k; kernel_rfl
theorem t5_181_f (w : World) : T5 181 15 (w.withFollow "special-get-raises" false) := by
  intro os rest k; kernel_rfl
theorem t5_196_f (w : World) : T5 196 15 (w.withFollow "special-get-raises" false) := by
  intro os rest k; kernel_rfl
theorem t5_211_f (w : World) : T5 211 15 (w.withFollow "special-get-raises" false) := by
  intro os rest k; kernel_rfl
theorem t5_226_f (w : World) : T5 226 15 (w.withFollow "special-get-raises" false) := by
  intro os rest k; kernel_rfl
theorem t5_241_f (w : World) : T5 241 15 (w.withFollow "special-get-raises" false) := by
  intro os rest k; kernel_rfl
theorem l5_f (w : World) : T5 1 255 (w.withFollow "special-get-raises" false) := (T5.add (T5.add (T5.add (T5.add (T5.add (T5.add (T5.add (T5.add (T5.add (T5.add (T5.add (T5.add (T5.add (T5.add (T5.add (T5.add (t5_1_f w) (t5_16_f w)) (t5_31_f w)) (t5_46_f w)) (t5_61_f w)) (t5_76_f w)) (t5_91_f w)) (t5_106_f w)) (t5_121_f w)) (t5_136_f w)) (t5_151_f w)) (t5_166_f w)) (t5_181_f w)) (t5_196_f w)) (t5_211_f w)) (t5_226_f w)) (t5_241_f w))
theorem l5 (w : World) : T5 1 255 w := byRow2 "special-get-raises" (P := T5 1 255) l5_f l5_t w
theorem t13_1_t (w : World) : T13 1 22 (w.withFollow "special-get-raises" true) := by
  intro os rest gv lv k; kernel_rfl
theorem t13_23_t (w : World) : T13 23 22 (w.withFollow "special-get-raises" true) := by
  intro os rest gv lv k; kernel_rfl
theorem t13_45_t (w : World) : T13 45 22 (w.withFollow "special-get-raises" true) := by
  intro os rest gv lv k; kernel_rfl
theorem l13_t (w : World) : T13 1 66 (w.withFollow "special-get-raises" true) := (T13.add (T13.add (t13_1_t w) (t13_23_t w)) (t13_45_t w))
theorem t13_1_f (w : World) : T13 1 22 (w.withFollow "special-get-raises" false) := by
  intro os rest gv lv k; kernel_rfl
theorem t13_23_f (w : World) : T13 23 22 (w.withFollow "special-get-raises" false) := by
  intro os rest gv lv k; kernel_rfl
theorem t13_45_f (w : World) : T13 45 22 (w.withFollow "special-get-raises" false) := by
  intro os rest gv lv k; kernel_rfl
theorem l13_f (w : World) : T13 1 66 (w.withFollow "special-get-raises" false) := (T13.add (T13.add (t13_1_f w) (t13_23_f w)) (t13_45_f w))
theorem l13 (w : World) : T13 1 66 w := byRow2 "special-get-raises" (P := T13 1 66) l13_f l13_t w
theorem t15_1_t (w : World) : T15 1 24 (w.withFollow "special-get-raises" true) := by
  intro os rest gv lv k; kernel_rfl
theorem t15_25_t (w : World) : T15 25 24 (w.withFollow "special-get-raises" true) := by
  intro os rest gv lv k; kernel_rfl
theorem t15_49_t (w : World) : T15 49 24 (w.withFollow "special-get-raises" true) := by
  intro os rest gv lv k; kernel_rfl
theorem t15_73_t (w : World) : T15 73 22 (w.withFollow "special-get-raises" true) := by
  intro os rest gv lv k; kernel_rfl
theorem l15_t (w : World) : T15 1 94 (w.withFollow "special-get-raises" true) := (T15.add (T15.add (T15.add (t15_1_t w) (t15_25_t w)) (t15_49_t w)) (t15_73_t w))
theorem t15_1_f (w : World) : T15 1 24 (w.withFollow "special-get-raises" false) := by
  intro os rest gv lv k; kernel_rfl
theorem t15_25_f (w : World) : T15 25 24 (w.withFollow "special-get-raises" false) := by
  intro os rest gv lv k; kernel_rfl
theorem t15_49_f (w : World) : T15 49 24 (w.withFollow "special-get-raises" false) := by
  intro os rest gv lv k; kernel_rfl
theorem t15_73_f (w : World) : T15 73 22 (w.withFollow "special-get-raises" false) := by
  intro os rest gv lv k; kernel_rfl
theorem l15_f (w : World) : T15 1 94 (w.withFollow "special-get-raises" false) := (T15.add (T15.add (T15.add (t15_1_f w) (t15_25_f w)) (t15_49_f w)) (t15_73_f w))
theorem l15 (w : World) : T15 1 94 w := byRow2 "special-get-raises" (P := T15 1 94) l15_f l15_t w
end Mine
end
section
open PySem PySem.W PyProof.Rows
set_option Elab.async false
set_option maxRecDepth 100000
set_option maxHeartbeats 0
namespace Mine
noncomputable abbrev impE := @PySem.W.Fast.tw10274390034422433532
theorem o_boot' (w : World) : impE tbl (opening PR) w 600 (start (opening PR)).1 (start (opening PR)).2 = some ⟨boot_heap w.params, ⟨[]⟩, boot_drawn, boot_toks, (start (opening PR)).1.os⟩ := by kernel_rfl
theorem o_boot (w : World) : importEnds treeTable (opening PR) w 600 (start (opening PR)).1 (start (opening PR)).2 = some ⟨boot_heap w.params, ⟨[]⟩, boot_drawn, boot_toks, (start (opening PR)).1.os⟩ := by
  have e : @importEnds = impE := PySem.W.Fast.te10274390034422433532
  have t : treeTable = tbl := PySem.W.Fast.te14364793385576792824
  rw [e, t]; exact o_boot' w
theorem o_open (w : World) : (fencedOpening treeTable PR w 30000).map (fun s => (s.heap, s.gens, s.drawn, s.toks)) = some (boot_heap w.params, ⟨[]⟩, boot_drawn, boot_toks) :=
  open_cut (He := boot_heap) (H₀ := boot_heap) o_boot (by decide) (fun w => by kernel_rfl) w
theorem o_size (w : World) : ((boot_heap w.params).isNs mainGlobals && (Array.mk ([] : List GenState)).size == 0, (boot_heap w.params).objs.size, (boot_heap w.params).nsMap mainGlobals "__annotations__") = (true, 11, ann6) := by kernel_rfl
end Mine
end
section
open PySem PySem.W PyProof.Rows
set_option Elab.async false
set_option maxRecDepth 100000
set_option maxHeartbeats 0
namespace Mine
theorem tbl_eq : treeTable = tbl := PySem.W.Fast.te14364793385576792824
theorem sRun_eq : @segRunT = sRun := PySem.W.Fast.te10110043849684766642
theorem tGo_eq : @topGo = tGo := PySem.W.Fast.te15667345088766844465
theorem dnt_eq : @denote = dnt := PySem.W.Fast.te11892475500146522536
theorem exT_eq : @execs = exT := PySem.W.Fast.te12563942051412417395
theorem pcs_eq (l : List Stmt) (ps : Pos) : pcs l ps = piecesOf l env0 bodyE ps [topFrame pos00] := by
  unfold pcs; rw [← exT_eq]
theorem seg_of {w : World} {n : Nat} {S S' : SharedT} {t : Thread} {ps : Pos} (h : sRun tbl PR w 11 ann6 1 n S t = some (.next, S', bodyE, ps)) :
    segRun treeTable PR w 11 ann6 1 n S.abs t = some (.next, S'.abs, bodyE, ps) := by
  rw [← tbl_eq, ← sRun_eq] at h
  exact segRun_of h
theorem sgo_of {w : World} {n : Nat} {S S' : SharedT} {t t' : Thread} (h : sgo tbl PR w 11 ann6 1 n S t = some (S', t')) :
    segGo treeTable PR w 11 ann6 1 n S.abs t = some (S'.abs, t') := by
  rw [← tbl_eq, ← sgo_eq] at h
  exact segGo_of h
theorem pieceAt {w : World} {n N : Nat} {S S' : SharedT} {r : Shared} {l rest : List Stmt} {ps ps' : Pos}
    (h : segRun treeTable PR w 11 ann6 1 n S.abs (pcs l ps) = some (.next, S'.abs, bodyE, ps'))
    (k : topRun treeTable PR w 11 ann6 N S'.abs (restOf rest env0 bodyE ps' [topFrame pos00]) = some r) :
    topRun treeTable PR w 11 ann6 (n + N) S.abs (restOf (l ++ rest) env0 bodyE ps [topFrame pos00]) = some r := by
  rw [pcs_eq] at h
  exact piece_app h k
theorem go15_def (w : World) (os : OsState) : go15 w os = sgo tbl PR w 11 ann6 1 55 (S14 w.params os) (pcs (grp 15 1) p14) := by delta go15; rfl
theorem go13_def (w : World) (os : OsState) : go13 w os = sgo tbl PR w 11 ann6 1 89 (S12 w.params os) (pcs (grp 13 1) p12) := by delta go13; rfl
theorem go5_def (w : World) (n : Nat) (os : OsState) : go5 w n os = sgo tbl PR w 11 ann6 1 n (S4 w.params os) (pcs (grp 5 1) p4) := by delta go5; rfl
def Rn (w : World) (S : SharedT) (t : Thread) (r : Shared) : Prop := ∃ n, n ≤ 20000 ∧ topRun treeTable PR w 11 ann6 n S.abs t = some r
theorem run_ex (w : World) (os : OsState) : ∃ n, n ≤ 30000 ∧ topRun treeTable PR w 11 ann6 n (S0 w.params os) (topStub PR) = some ⟨H1 w.params, ⟨[]⟩, {}, 1857, os⟩ := by
  rw [← c_last w.params os]
  have z : topRun treeTable PR w 11 ann6 3 (S30 w.params os).abs (restOf [] env0 bodyE p30 [topFrame pos00]) = some (S30 w.params os).abs := by
    rw [tbl_eq]; exact piece_nil (c_fin w os)
  have z30 := pieceAt (seg_of (q30 w os)) z
  obtain ⟨a15, b15⟩ := q15 w os
  have a15 : sgo tbl PR w 11 ann6 1 55 (S14 w.params os) (pcs (grp 15 1) p14) = some (B15 w.params (rest15 w.params) (gv15 w.params) v0 1 os, thr15 (frK (go15 w os)) pos15) := (go15_def w os).symm.trans a15
  have z15 := pieceAt (S := S14 w.params os) (l := grp 15 1) (ps := p14) (seg_go (sgo_of (sgo_add a15 (l15 w os _ _ _ _))) (seg_of b15)) z30
  have z14 := pieceAt (seg_of (c_14 w os)) z15
  obtain ⟨a13, b13⟩ := q13 w os
  have a13 : sgo tbl PR w 11 ann6 1 89 (S12 w.params os) (pcs (grp 13 1) p12) = some (B13 w.params (rest13 w.params) (gv13 w.params) v0 1 os, thr13 (frK (go13 w os)) pos13) := (go13_def w os).symm.trans a13
  have z13 := pieceAt (S := S12 w.params os) (l := grp 13 1) (ps := p12) (seg_go (sgo_of (sgo_add a13 (l13 w os _ _ _ _))) (seg_of b13)) z14
  have z12 := pieceAt (seg_of (c_12 w os)) z13
  have z5 : ∃ n, n ≤ 20000 ∧ topRun treeTable PR w 11 ann6 n (S4 w.params os).abs (restOf (grp 5 1 ++ (grp 6 7 ++ (grp 13 1 ++ (grp 14 1 ++ (grp 15 1 ++ (grp 16 15 ++ [])))))) env0 bodyE p4 [topFrame pos00]) = some (S30 w.params os).abs := by
    rcases q5 w with h | h
    · obtain ⟨a5, b5⟩ := h os
      have a5 : sgo tbl PR w 11 ann6 1 89 (S4 w.params os) (pcs (grp 5 1) p4) = some (A5 w.params (rest5 w.params) 1 os, thr5 (frK (go5 w 89 os)) pos5) := (go5_def w _ os).symm.trans a5
      exact  ⟨_, by decide, pieceAt (S := S4 w.params os) (l := grp 5 1) (ps := p4) (seg_go (sgo_of (sgo_add a5 (l5 w os _ _))) (seg_of b5)) z12⟩
    · obtain ⟨a5, b5⟩ := h os
      have a5 : sgo tbl PR w 11 ann6 1 79 (S4 w.params os) (pcs (grp 5 1) p4) = some (A5 w.params (rest5 w.params) 1 os, thr5 (frK (go5 w 79 os)) pos5) := (go5_def w _ os).symm.trans a5
      exact  ⟨_, by decide, pieceAt (S := S4 w.params os) (l := grp 5 1) (ps := p4) (seg_go (sgo_of (sgo_add a5 (l5 w os _ _))) (seg_of b5)) z12⟩
  obtain ⟨n, hn, z5⟩ := z5
  have z4 := pieceAt (seg_of (c_4 w os)) z5
  rw [← c_all] at z4
  have hb : segRun treeTable PR w 11 ann6 1 1 (Sb w.params os).abs (blockOf (behindTheImports PR) env0 bodyE pos00 [topFrame pos00]) = some (.next, (Sb w.params os).abs, bodyE, pos00) := by kernel_rfl
  have zb := piece_block hb z4
  have hp : topGo treeTable PR w 11 ann6 12 (S0 w.params os) (topStub PR) = some ((Sb w.params os).abs, ⟨denote treeTable (.body (behindTheImports PR) env0), bodyE, pos00, [topFrame pos00]⟩) := by
    have := congrFun (c_pre w) os
    rw [tGo_eq, tbl_eq, dnt_eq]
    exact this
  exact ⟨_, by omega, go_top hp zb⟩
theorem run_all (w : World) (os : OsState) : topRun treeTable PR w 11 ann6 30000 (S0 w.params os) (topStub PR) = some ⟨H1 w.params, ⟨[]⟩, {}, 1857, os⟩ := by
  obtain ⟨n, hn, h⟩ := run_ex w os
  have := topRun_mono (30000 - n) _ _ _ _ h
  rwa [show n + (30000 - n) = 30000 by omega] at this
end Mine
end
section
open PySem PySem.W PyProof.Rows
set_option Elab.async false
set_option maxRecDepth 100000
set_option maxHeartbeats 0
namespace Mine
noncomputable def vq : Program := view PR [1, 2, 3, 4, 5, 6, 7, 8, 9, 10, 11, 16, 18, 23, 24, 25, 26, 27, 28, 29, 30]
noncomputable def lse : List Str := [Str.ofString "_QUOPRI_MAP", Str.ofString "_QUOPRI_HEADER_MAP", Str.ofString "_QUOPRI_BODY_MAP", Str.ofString "ascii_letters", Str.ofString "header_encode", Str.ofString "_QUOPRI_BODY_ENCODE_MAP", Str.ofString "body_encode"]
noncomputable def lvs : List (Str × WData) := [(Str.ofString "ascii_letters", .str ⟨⟨[97, 98, 99, 100, 101, 102, 103, 104, 105, 106, 107, 108, 109, 110, 111, 112, 113, 114, 115, 116, 117, 118, 119, 120, 121, 122, 65, 66, 67, 68, 69, 70, 71, 72, 73, 74, 75, 76, 77, 78, 79, 80, 81, 82, 83, 84, 85, 86, 87, 88, 89, 90]⟩⟩)]
noncomputable def xt (s : Shared) : Bool := xlAt vq lvs s && recOk (RowW.records (OpenRow.toRowW PySem.Challenge.rw_re0086_01.row)) s
noncomputable def sF (P : Params) (os : OsState) : Shared := ⟨H1 P, ⟨[]⟩, {}, 1857, os⟩
theorem look1 (w : World) (os : OsState) : (staticsOk (importedModules PR.main.body) (boot_heap w.params) (H1 w.params) && namesBound PR (H1 w.params) && gensDone (sF w.params os) && laidKept (boot_heap w.params) (H1 w.params)) = true := by kernel_rfl
noncomputable abbrev oSeen := @PySem.W.Fast.tw4187177175401517315
theorem look2 (w : World) (os : OsState) : oSeen vq lse (importedModules PR.main.body) xt true (sF w.params os) = openGood vq lse := by kernel_rfl
end Mine
end
section
open PySem PySem.W PyProof.Rows
set_option Elab.async false
set_option maxRecDepth 100000
set_option maxHeartbeats 0
namespace Mine
theorem oSeen_eq : @openSeen = oSeen := PySem.W.Fast.te4187177175401517315
theorem left0 : LeftO PR vq lse xt (fun s => s.heap) (fun w => H1 w.params) 30000 :=
  LeftO.of_pieces (H₀ := boot_heap) (H₁ := H1) (gs₀ := ⟨[]⟩) (gs₁ := ⟨[]⟩) (d₀ := boot_drawn) (d₁ := {}) (k₀ := boot_toks) (k₁ := 1857) (m₀ := 11) (ann := ann6) (M := 30000)
    o_open o_size (fun w os => run_all w os) (by decide) (fun w => funext fun os => by
      have h1 := look1 w os
      have h2 := look2 w os
      rw [← oSeen_eq] at h2
      exact Prod.ext h1 (Prod.ext h2 rfl))
def HIn (w : World) (h : Heap) : Prop := ∀ b o, (H1 w.params).get? b = some o → h.get? b = some o
theorem dLaw_some : (defOf vq PySem.Challenge.rw_re0086_01.row.name).isSome = true := by kernel_rfl
noncomputable def dLaw : DefRec := ((defOf vq PySem.Challenge.rw_re0086_01.row.name).get dLaw_some).1
theorem dLaw_def : defOf vq PySem.Challenge.rw_re0086_01.row.name = some (dLaw, []) := by kernel_rfl
theorem headOf (walk : WalkO vq lse (XL vq lvs) HIn (OpenRow.toRowW PySem.Challenge.rw_re0086_01.row) dLaw [] fun f vs => PySem.call f vs) : PySem.Challenge.rw_re0086_01.Holds := by
  w_on
  o_law
  refine holds_open (q := vq) (loose := lse) (Xt := xt) (XP := XL vq lvs) (Yf := fun s => s.heap) (Ya := fun w => H1 w.params) (YP := HIn) (N := 30000) left0
    (fun w s e b o x => by rw [e]; exact x) (fun w h h' x k b o e => k b o (x b o e)) (fun s e => xl_of s (Bool.and_eq_true_iff.mp e).1) XL.keeps dLaw_def (by kernel_rfl) (by kernel_rfl)
    (fun s e => recFacts_of (Bool.and_eq_true_iff.mp e).2) (by rfl) (by first | assumption | decide +kernel) (by decide +kernel) ⟨rfl, rfl, rfl, rfl, rfl, by decide +kernel⟩ ?hw walk
  case hw => w_witness2
end Mine
end
section
open PySem PySem.W PyProof.Rows
set_option Elab.async false
set_option maxRecDepth 100000
set_option maxHeartbeats 0
namespace Mine
noncomputable def fname (i : Nat) : Str := match (behindTheImports PR).drop i with | (.FunctionDef n _ _ _ _ _ _ _ _ _) :: _ => n | _ => Str.empty
noncomputable def fargs (i : Nat) : Arguments := match (behindTheImports PR).drop i with | (.FunctionDef _ a _ _ _ _ _ _ _ _) :: _ => a | _ => default
noncomputable def fbody (i : Nat) : List Stmt := match (behindTheImports PR).drop i with | (.FunctionDef _ _ b _ _ _ _ _ _ _) :: _ => b | _ => []
noncomputable def fscope (i : Nat) : Scope := match (behindTheImports PR).drop i with | (.FunctionDef _ _ _ _ _ _ s _ _ _) :: _ => s | _ => default
noncomputable def m0 : Value := .str (Str.ofString "cpy313.doctest") 187
noncomputable def m1 : Value := .str (Str.ofString "cpy313.email.quoprimime") 1245
noncomputable def m2 : Value := .str (Str.ofString "law_re0086_01") 1789
noncomputable def fdat (i : Nat) (m dv : Value) (c : Addr) : FuncData := { name := fname i, qualname := fname i, params := fargs i, body := .stmts (fbody i), scope := fscope i, globals := 3, closure := [], defaults := dv, kwdefaults := .none, pyModule := m, code := .ref c }
noncomputable abbrev tyFn := PySem.W.SL.s7174869446012820540x8
noncomputable abbrev tyTp := PySem.W.SL.s2766695959194262286x5
noncomputable def fobj (i : Nat) (m dv : Value) (c : Addr) : Obj := { cls := .type tyFn, data := .func (fdat i m dv c) }
noncomputable def codeQ : Option Obj → Option Str
  | some o => (match o.data with | .fields vs => (match (vs[1]? : Option Value) with | some (.str q _) => some q | _ => none) | _ => none)
  | none => none
noncomputable def hdrV (j : Nat) : Value := if j = 32 then .str ⟨⟨[95]⟩⟩ 1455 else hv ix13 1256 v0 67 j
noncomputable def bdyV (j : Nat) : Value := if j = 13 then .str ⟨⟨[13]⟩⟩ 1765 else if j = 10 then .str ⟨⟨[10]⟩⟩ 1768 else hv ix15 1461 v0 95 j
def HF (P : Params) : Prop :=
  (H1 P).get? 21 = some (fobj 2 m0 .none 20) ∧ codeQ ((H1 P).get? 20) = some (fname 2) ∧
  (H1 P).get? 44 = some (fobj 16 m1 .none 43) ∧ codeQ ((H1 P).get? 43) = some (fname 16) ∧
  (H1 P).get? 52 = some (fobj 17 m1 (.ref 45) 51) ∧ codeQ ((H1 P).get? 51) = some (fname 17) ∧
  (H1 P).get? 65 = some (fobj 21 m1 (.ref 58) 64) ∧ codeQ ((H1 P).get? 64) = some (fname 21) ∧
  (H1 P).get? 72 = some (fobj 23 m2 .none 71) ∧ codeQ ((H1 P).get? 71) = some (fname 23) ∧
  (H1 P).get? 77 = some (fobj 24 m2 .none 76) ∧ codeQ ((H1 P).get? 76) = some (fname 24) ∧
  (H1 P).get? 84 = some (fobj 25 m2 .none 83) ∧ codeQ ((H1 P).get? 83) = some (fname 25) ∧
  (H1 P).get? 91 = some (fobj 26 m2 .none 90) ∧ codeQ ((H1 P).get? 90) = some (fname 26) ∧
  (H1 P).get? 96 = some (fobj 27 m2 .none 95) ∧ codeQ ((H1 P).get? 95) = some (fname 27) ∧
  (H1 P).get? 103 = some (fobj 28 m2 .none 102) ∧ codeQ ((H1 P).get? 102) = some (fname 28) ∧
  (H1 P).get? 110 = some (fobj 29 m2 .none 109) ∧ codeQ ((H1 P).get? 109) = some (fname 29) ∧
  (H1 P).get? 115 = some (fobj 30 m2 .none 114) ∧ codeQ ((H1 P).get? 114) = some (fname 30) ∧
  (H1 P).get? 24 = some { cls := .type tyL, data := .seq ⟨mkL v0 256 0⟩ 256 } ∧
  (H1 P).get? 29 = some { cls := .type tyL, data := .seq ⟨mkL hdrV 256 0⟩ 0 } ∧
  (H1 P).get? 54 = some { cls := .type tyL, data := .seq ⟨mkL bdyV 256 0⟩ 0 } ∧
  (H1 P).get? 45 = some { cls := .type tyTp, data := .seq ⟨[.str (Str.ofString "iso-8859-1") 1751]⟩ 0 } ∧
  (H1 P).get? 58 = some { cls := .type tyTp, data := .seq ⟨[.int 76 1769, .str (Str.ofString "\n") 205]⟩ 0 }
theorem hf (P : Params) : HF P := ⟨(by kernel_rfl), (by kernel_rfl), (by kernel_rfl), (by kernel_rfl), (by kernel_rfl), (by kernel_rfl), (by kernel_rfl), (by kernel_rfl), (by kernel_rfl), (by kernel_rfl), (by kernel_rfl), (by kernel_rfl), (by kernel_rfl), (by kernel_rfl), (by kernel_rfl), (by kernel_rfl), (by kernel_rfl), (by kernel_rfl), (by kernel_rfl), (by kernel_rfl), (by kernel_rfl), (by kernel_rfl), (by kernel_rfl), (by kernel_rfl), (by kernel_rfl), (by kernel_rfl), (by kernel_rfl), (by kernel_rfl), (by kernel_rfl)⟩
noncomputable abbrev nsM := @PySem.W.Fast.tw8920871248978507458
def HN (P : Params) : Prop := (H1 P).isNs 3 = true ∧ (H1 P).isNs 0 = true ∧ (H1 P).isNs cStatics = true ∧ nsM (H1 P) cStatics (Str.ofString "sys.recursionlimit") = none ∧
  nsM (H1 P) 3 (Str.ofString "_ellipsis_match") = some (.ref 21) ∧
  nsM (H1 P) 3 (Str.ofString "quote") = some (.ref 44) ∧
  nsM (H1 P) 3 (Str.ofString "header_encode") = some (.ref 52) ∧
  nsM (H1 P) 3 (Str.ofString "body_encode") = some (.ref 65) ∧
  nsM (H1 P) 3 (Str.ofString "_law_figures") = some (.ref 72) ∧
  nsM (H1 P) 3 (Str.ofString "_law_written") = some (.ref 77) ∧
  nsM (H1 P) 3 (Str.ofString "_law_places") = some (.ref 84) ∧
  nsM (H1 P) 3 (Str.ofString "_law_led") = some (.ref 91) ∧
  nsM (H1 P) 3 (Str.ofString "_law_ends") = some (.ref 96) ∧
  nsM (H1 P) 3 (Str.ofString "_law_shown") = some (.ref 103) ∧
  nsM (H1 P) 3 (Str.ofString "_law_folded") = some (.ref 110) ∧
  nsM (H1 P) 3 (Str.ofString "law") = some (.ref 115) ∧
  nsM (H1 P) 3 (Str.ofString "_QUOPRI_MAP") = some (.ref 24) ∧
  nsM (H1 P) 3 (Str.ofString "_QUOPRI_HEADER_MAP") = some (.ref 29) ∧
  nsM (H1 P) 3 (Str.ofString "_QUOPRI_BODY_ENCODE_MAP") = some (.ref 54) ∧
  nsM (H1 P) 3 (Str.ofString "CRLF") = some (.str (Str.ofString "\x0d\n") 203) ∧
  nsM (H1 P) 3 (Str.ofString "NL") = some (.str (Str.ofString "\n") 205) ∧
  nsM (H1 P) 3 (Str.ofString "ELLIPSIS_MARKER") = some (.str (Str.ofString "...") 189) ∧
  nsM (H1 P) 3 (Str.ofString "len") = none ∧ nsM (H1 P) 0 (Str.ofString "len") = some (.builtin "len") ∧
  nsM (H1 P) 3 (Str.ofString "ord") = none ∧ nsM (H1 P) 0 (Str.ofString "ord") = some (.builtin "ord") ∧
  nsM (H1 P) 3 (Str.ofString "min") = none ∧ nsM (H1 P) 0 (Str.ofString "min") = some (.builtin "min") ∧
  nsM (H1 P) 3 (Str.ofString "sum") = none ∧ nsM (H1 P) 0 (Str.ofString "sum") = some (.builtin "sum") ∧
  nsM (H1 P) 3 (Str.ofString "range") = none ∧ nsM (H1 P) 0 (Str.ofString "range") = some (.type "range") ∧
  nsM (H1 P) 3 (Str.ofString "bytes") = none ∧ nsM (H1 P) 0 (Str.ofString "bytes") = some (.type "bytes")
theorem hn (P : Params) : HN P := ⟨(by kernel_rfl), (by kernel_rfl), (by kernel_rfl), (by kernel_rfl), (by kernel_rfl), (by kernel_rfl), (by kernel_rfl), (by kernel_rfl), (by kernel_rfl), (by kernel_rfl), (by kernel_rfl), (by kernel_rfl), (by kernel_rfl), (by kernel_rfl), (by kernel_rfl), (by kernel_rfl), (by kernel_rfl), (by kernel_rfl), (by kernel_rfl), (by kernel_rfl), (by kernel_rfl), (by kernel_rfl), (by kernel_rfl), (by kernel_rfl), (by kernel_rfl), (by kernel_rfl), (by kernel_rfl), (by kernel_rfl), (by kernel_rfl), (by kernel_rfl), (by kernel_rfl), (by kernel_rfl), (by kernel_rfl), (by kernel_rfl)⟩
end Mine
end
section
open PySem PySem.W PyProof.Rows
set_option Elab.async false
set_option maxRecDepth 100000
set_option maxHeartbeats 0
namespace Mine
theorem ty_list : (tyL : String) = "list" := PySem.W.SL.e9222952809800978799x4.symm
theorem ty_tup : (tyTp : String) = "tuple" := PySem.W.SL.e2766695959194262286x5.symm
noncomputable def hexT (j : Nat) : List Nat := [61, hx (j / 16), hx (j % 16)]
noncomputable def hdrT (j : Nat) : List Nat := if j = 32 then [95] else if ix13 j < 67 then [j] else hexT j
noncomputable def bdyT (j : Nat) : List Nat := if j = 13 then [13] else if j = 10 then [10] else if ix15 j < 95 then [j] else hexT j
def tab (f : Nat → List Nat) : List (List Nat) := (List.range 256).map f
theorem mkL_rep {h : Heap} {v : Nat → Value} {t : Nat → List Nat} (e : ∀ j, ∃ u, v j = .str (S (t j)) u) : ∀ n j, RepAll h (mkL v n j) ((List.range' j n).map fun i => D.str (t i))
  | 0, _ => .nil
  | n + 1, j => by
    obtain ⟨u, hu⟩ := e j
    show RepAll h (v j :: mkL v n (j + 1)) (D.str (t j) :: (List.range' (j + 1) n).map fun i => D.str (t i))
    rw [hu]; exact .cons .str (mkL_rep e n (j + 1))
theorem tab_eq (f : Nat → List Nat) : (tab f).map D.str = (List.range' 0 256).map fun i => D.str (f i) := by
  unfold tab; rw [List.map_map, List.range_eq_range']; rfl
theorem v0_str (j : Nat) : ∃ u, v0 j = .str (S (hexT j)) u := ⟨_, rfl⟩
theorem hdrV_str (j : Nat) : ∃ u, hdrV j = .str (S (hdrT j)) u := by
  unfold hdrV hdrT hv
  by_cases h : j = 32
  · rw [if_pos h, if_pos h]; exact ⟨_, rfl⟩
  · rw [if_neg h, if_neg h]
    by_cases h' : ix13 j < 67
    · rw [if_pos h', if_pos h']; exact ⟨_, rfl⟩
    · rw [if_neg h', if_neg h']; exact ⟨_, rfl⟩
theorem bdyV_str (j : Nat) : ∃ u, bdyV j = .str (S (bdyT j)) u := by
  unfold bdyV bdyT hv
  by_cases h : j = 13
  · rw [if_pos h, if_pos h]; exact ⟨_, rfl⟩
  · rw [if_neg h, if_neg h]
    by_cases h2 : j = 10
    · rw [if_pos h2, if_pos h2]; exact ⟨_, rfl⟩
    · rw [if_neg h2, if_neg h2]
      by_cases h' : ix15 j < 95
      · rw [if_pos h', if_pos h']; exact ⟨_, rfl⟩
      · rw [if_neg h', if_neg h']; exact ⟨_, rfl⟩
inductive Gl : Str → D → Prop where
  | fellipsismatch : Gl (Str.ofString "_ellipsis_match") (.raw (.ref 21))
  | fquote : Gl (Str.ofString "quote") (.raw (.ref 44))
  | fheaderencode : Gl (Str.ofString "header_encode") (.raw (.ref 52))
  | fbodyencode : Gl (Str.ofString "body_encode") (.raw (.ref 65))
  | flawfigures : Gl (Str.ofString "_law_figures") (.raw (.ref 72))
  | flawwritten : Gl (Str.ofString "_law_written") (.raw (.ref 77))
  | flawplaces : Gl (Str.ofString "_law_places") (.raw (.ref 84))
  | flawled : Gl (Str.ofString "_law_led") (.raw (.ref 91))
  | flawends : Gl (Str.ofString "_law_ends") (.raw (.ref 96))
  | flawshown : Gl (Str.ofString "_law_shown") (.raw (.ref 103))
  | flawfolded : Gl (Str.ofString "_law_folded") (.raw (.ref 110))
  | flaw : Gl (Str.ofString "law") (.raw (.ref 115))
  | qmap : Gl (Str.ofString "_QUOPRI_MAP") (.list ((tab hexT).map D.str))
  | hmap : Gl (Str.ofString "_QUOPRI_HEADER_MAP") (.list ((tab hdrT).map D.str))
  | bmap : Gl (Str.ofString "_QUOPRI_BODY_ENCODE_MAP") (.list ((tab bdyT).map D.str))
  | crlf : Gl (Str.ofString "CRLF") (.str [13, 10])
  | nl : Gl (Str.ofString "NL") (.str [10])
  | mark : Gl (Str.ofString "ELLIPSIS_MARKER") (.str [46, 46, 46])
  | len : Gl (Str.ofString "len") (.raw (.builtin "len"))
  | ord : Gl (Str.ofString "ord") (.raw (.builtin "ord"))
  | min : Gl (Str.ofString "min") (.raw (.builtin "min"))
  | sum : Gl (Str.ofString "sum") (.raw (.builtin "sum"))
  | range : Gl (Str.ofString "range") (.raw (.type "range"))
  | bytes : Gl (Str.ofString "bytes") (.raw (.type "bytes"))
theorem ns_eq2 : @Heap.nsMap = nsM := PySem.W.Fast.te8920871248978507458
theorem listAt {P : Params} {h : Heap} (k : Kp (H1 P) h) {a : Addr} {v : Nat → Value} {t : Nat → List Nat} {n : Nat} (e : ∀ j, ∃ u, v j = .str (S (t j)) u) (g : (H1 P).get? a = some { cls := .type tyL, data := .seq ⟨mkL v 256 0⟩ n }) : Rep h (.ref a) (.list ((tab t).map D.str)) := by
  rw [ty_list] at g
  refine .list (vs := mkL v 256 0) (n := n) (k _ _ g) ?_
  rw [tab_eq]; exact mkL_rep e 256 0
theorem crlf_eq : Str.ofString "\x0d\n" = S [13, 10] := by decide +kernel
theorem nl_eq : Str.ofString "\n" = S [10] := by decide +kernel
theorem dots_eq : Str.ofString "..." = S [46, 46, 46] := by decide +kernel
noncomputable def Gr (w : World) : Gx where
  prog := PR
  w := w
  W := HIn w
  glob := Gl
  keeps := fun k x b o e => k b o (x b o e)
  look := fun {h} k => by
    have F := hf w.params
    have N := hn w.params
    unfold HN at N
    rw [← ns_eq2] at N
    refine ⟨(H1 w.params).nsMap 3, (H1 w.params).nsMap 0, (Heap.Ns.of_isNs N.1).keeps k, (Heap.Ns.of_isNs N.2.1).keeps k, fun x d g => ?_⟩
    obtain ⟨-, -, -, -, N⟩ := N
    obtain ⟨n_fellipsismatch, n_fquote, n_fheaderencode, n_fbodyencode, n_flawfigures, n_flawwritten, n_flawplaces, n_flawled, n_flawends, n_flawshown, n_flawfolded, n_flaw, n_qmap, n_hmap, n_bmap, n_crlf, n_nl, n_mark, g_len, b_len, g_ord, b_ord, g_min, b_min, g_sum, b_sum, g_range, b_range, g_bytes, b_bytes⟩ := N
    obtain ⟨-, -, -, -, -, -, -, -, -, -, -, -, -, -, -, -, -, -, -, -, -, -, -, -, l24, l29, l54, -, -⟩ := F
    cases g with
    | fellipsismatch => exact ⟨_, .raw, .inl n_fellipsismatch⟩
    | fquote => exact ⟨_, .raw, .inl n_fquote⟩
    | fheaderencode => exact ⟨_, .raw, .inl n_fheaderencode⟩
    | fbodyencode => exact ⟨_, .raw, .inl n_fbodyencode⟩
    | flawfigures => exact ⟨_, .raw, .inl n_flawfigures⟩
    | flawwritten => exact ⟨_, .raw, .inl n_flawwritten⟩
    | flawplaces => exact ⟨_, .raw, .inl n_flawplaces⟩
    | flawled => exact ⟨_, .raw, .inl n_flawled⟩
    | flawends => exact ⟨_, .raw, .inl n_flawends⟩
    | flawshown => exact ⟨_, .raw, .inl n_flawshown⟩
    | flawfolded => exact ⟨_, .raw, .inl n_flawfolded⟩
    | flaw => exact ⟨_, .raw, .inl n_flaw⟩
    | qmap => exact ⟨_, listAt k v0_str l24, .inl n_qmap⟩
    | hmap => exact ⟨_, listAt k hdrV_str l29, .inl n_hmap⟩
    | bmap => exact ⟨_, listAt k bdyV_str l54, .inl n_bmap⟩
    | crlf => rw [crlf_eq] at n_crlf; exact ⟨_, .str, .inl n_crlf⟩
    | nl => rw [nl_eq] at n_nl; exact ⟨_, .str, .inl n_nl⟩
    | mark => rw [dots_eq] at n_mark; exact ⟨_, .str, .inl n_mark⟩
    | len => exact ⟨_, .raw, .inr ⟨g_len, b_len⟩⟩
    | ord => exact ⟨_, .raw, .inr ⟨g_ord, b_ord⟩⟩
    | min => exact ⟨_, .raw, .inr ⟨g_min, b_min⟩⟩
    | sum => exact ⟨_, .raw, .inr ⟨g_sum, b_sum⟩⟩
    | range => exact ⟨_, .raw, .inr ⟨g_range, b_range⟩⟩
    | bytes => exact ⟨_, .raw, .inr ⟨g_bytes, b_bytes⟩⟩
  lim := fun {h} k => by
    have N := hn w.params
    unfold HN at N
    rw [← ns_eq2] at N
    exact ⟨_, (Heap.Ns.of_isNs N.2.2.1).keeps k, N.2.2.2.1⟩
theorem codeRec {P : Params} {h : Heap} (k : Kp (H1 P) h) {c : Addr} {q : Str} (e : codeQ ((H1 P).get? c) = some q) : h.CodeRec (.ref c) q := by
  unfold codeQ at e
  split at e
  · rename_i o ho
    split at e
    · rename_i vs hv
      split at e
      · rename_i q' t hq
        cases e
        exact ⟨c, o, vs, t, rfl, k _ _ ho, hv, hq⟩
      · cases e
    · cases e
  · cases e
theorem at_fellipsismatch {w : World} {h : Heap} (x : (Gr w).W h) : h.get? 21 = some (fobj 2 m0 .none 20) := x _ _ (hf w.params).1
theorem cd_fellipsismatch {w : World} {h : Heap} (x : (Gr w).W h) : h.CodeRec (.ref 20) (fname 2) := codeRec x (hf w.params).2.1
theorem at_fquote {w : World} {h : Heap} (x : (Gr w).W h) : h.get? 44 = some (fobj 16 m1 .none 43) := x _ _ (hf w.params).2.2.1
theorem cd_fquote {w : World} {h : Heap} (x : (Gr w).W h) : h.CodeRec (.ref 43) (fname 16) := codeRec x (hf w.params).2.2.2.1
theorem at_fheaderencode {w : World} {h : Heap} (x : (Gr w).W h) : h.get? 52 = some (fobj 17 m1 (.ref 45) 51) := x _ _ (hf w.params).2.2.2.2.1
theorem cd_fheaderencode {w : World} {h : Heap} (x : (Gr w).W h) : h.CodeRec (.ref 51) (fname 17) := codeRec x (hf w.params).2.2.2.2.2.1
theorem at_fbodyencode {w : World} {h : Heap} (x : (Gr w).W h) : h.get? 65 = some (fobj 21 m1 (.ref 58) 64) := x _ _ (hf w.params).2.2.2.2.2.2.1
theorem cd_fbodyencode {w : World} {h : Heap} (x : (Gr w).W h) : h.CodeRec (.ref 64) (fname 21) := codeRec x (hf w.params).2.2.2.2.2.2.2.1
theorem at_flawfigures {w : World} {h : Heap} (x : (Gr w).W h) : h.get? 72 = some (fobj 23 m2 .none 71) := x _ _ (hf w.params).2.2.2.2.2.2.2.2.1
theorem cd_flawfigures {w : World} {h : Heap} (x : (Gr w).W h) : h.CodeRec (.ref 71) (fname 23) := codeRec x (hf w.params).2.2.2.2.2.2.2.2.2.1
theorem at_flawwritten {w : World} {h : Heap} (x : (Gr w).W h) : h.get? 77 = some (fobj 24 m2 .none 76) := x _ _ (hf w.params).2.2.2.2.2.2.2.2.2.2.1
theorem cd_flawwritten {w : World} {h : Heap} (x : (Gr w).W h) : h.CodeRec (.ref 76) (fname 24) := codeRec x (hf w.params).2.2.2.2.2.2.2.2.2.2.2.1
theorem at_flawplaces {w : World} {h : Heap} (x : (Gr w).W h) : h.get? 84 = some (fobj 25 m2 .none 83) := x _ _ (hf w.params).2.2.2.2.2.2.2.2.2.2.2.2.1
theorem cd_flawplaces {w : World} {h : Heap} (x : (Gr w).W h) : h.CodeRec (.ref 83) (fname 25) := codeRec x (hf w.params).2.2.2.2.2.2.2.2.2.2.2.2.2.1
theorem at_flawled {w : World} {h : Heap} (x : (Gr w).W h) : h.get? 91 = some (fobj 26 m2 .none 90) := x _ _ (hf w.params).2.2.2.2.2.2.2.2.2.2.2.2.2.2.1
theorem cd_flawled {w : World} {h : Heap} (x : (Gr w).W h) : h.CodeRec (.ref 90) (fname 26) := codeRec x (hf w.params).2.2.2.2.2.2.2.2.2.2.2.2.2.2.2.1
theorem at_flawends {w : World} {h : Heap} (x : (Gr w).W h) : h.get? 96 = some (fobj 27 m2 .none 95) := x _ _ (hf w.params).2.2.2.2.2.2.2.2.2.2.2.2.2.2.2.2.1
theorem cd_flawends {w : World} {h : Heap} (x : (Gr w).W h) : h.CodeRec (.ref 95) (fname 27) := codeRec x (hf w.params).2.2.2.2.2.2.2.2.2.2.2.2.2.2.2.2.2.1
theorem at_flawshown {w : World} {h : Heap} (x : (Gr w).W h) : h.get? 103 = some (fobj 28 m2 .none 102) := x _ _ (hf w.params).2.2.2.2.2.2.2.2.2.2.2.2.2.2.2.2.2.2.1
theorem cd_flawshown {w : World} {h : Heap} (x : (Gr w).W h) : h.CodeRec (.ref 102) (fname 28) := codeRec x (hf w.params).2.2.2.2.2.2.2.2.2.2.2.2.2.2.2.2.2.2.2.1
theorem at_flawfolded {w : World} {h : Heap} (x : (Gr w).W h) : h.get? 110 = some (fobj 29 m2 .none 109) := x _ _ (hf w.params).2.2.2.2.2.2.2.2.2.2.2.2.2.2.2.2.2.2.2.2.1
theorem cd_flawfolded {w : World} {h : Heap} (x : (Gr w).W h) : h.CodeRec (.ref 109) (fname 29) := codeRec x (hf w.params).2.2.2.2.2.2.2.2.2.2.2.2.2.2.2.2.2.2.2.2.2.1
theorem at_flaw {w : World} {h : Heap} (x : (Gr w).W h) : h.get? 115 = some (fobj 30 m2 .none 114) := x _ _ (hf w.params).2.2.2.2.2.2.2.2.2.2.2.2.2.2.2.2.2.2.2.2.2.2.1
theorem cd_flaw {w : World} {h : Heap} (x : (Gr w).W h) : h.CodeRec (.ref 114) (fname 30) := codeRec x (hf w.params).2.2.2.2.2.2.2.2.2.2.2.2.2.2.2.2.2.2.2.2.2.2.2.1
theorem g_ellipsismatch {w : World} : (Gr w).glob (Str.ofString "_ellipsis_match") (.raw (.ref 21)) := .fellipsismatch
theorem g_quote {w : World} : (Gr w).glob (Str.ofString "quote") (.raw (.ref 44)) := .fquote
theorem g_headerencode {w : World} : (Gr w).glob (Str.ofString "header_encode") (.raw (.ref 52)) := .fheaderencode
theorem g_bodyencode {w : World} : (Gr w).glob (Str.ofString "body_encode") (.raw (.ref 65)) := .fbodyencode
theorem g_lawfigures {w : World} : (Gr w).glob (Str.ofString "_law_figures") (.raw (.ref 72)) := .flawfigures
theorem g_lawwritten {w : World} : (Gr w).glob (Str.ofString "_law_written") (.raw (.ref 77)) := .flawwritten
theorem g_lawplaces {w : World} : (Gr w).glob (Str.ofString "_law_places") (.raw (.ref 84)) := .flawplaces
theorem g_lawled {w : World} : (Gr w).glob (Str.ofString "_law_led") (.raw (.ref 91)) := .flawled
theorem g_lawends {w : World} : (Gr w).glob (Str.ofString "_law_ends") (.raw (.ref 96)) := .flawends
theorem g_lawshown {w : World} : (Gr w).glob (Str.ofString "_law_shown") (.raw (.ref 103)) := .flawshown
theorem g_lawfolded {w : World} : (Gr w).glob (Str.ofString "_law_folded") (.raw (.ref 110)) := .flawfolded
theorem g_law {w : World} : (Gr w).glob (Str.ofString "law") (.raw (.ref 115)) := .flaw
theorem g_qmap {w : World} : (Gr w).glob (Str.ofString "_QUOPRI_MAP") (.list ((tab hexT).map D.str)) := .qmap
theorem g_hmap {w : World} : (Gr w).glob (Str.ofString "_QUOPRI_HEADER_MAP") (.list ((tab hdrT).map D.str)) := .hmap
theorem g_bmap {w : World} : (Gr w).glob (Str.ofString "_QUOPRI_BODY_ENCODE_MAP") (.list ((tab bdyT).map D.str)) := .bmap
theorem g_crlf {w : World} : (Gr w).glob (Str.ofString "CRLF") (.str [13, 10]) := .crlf
theorem g_nl {w : World} : (Gr w).glob (Str.ofString "NL") (.str [10]) := .nl
theorem g_mark {w : World} : (Gr w).glob (Str.ofString "ELLIPSIS_MARKER") (.str [46, 46, 46]) := .mark
theorem g_len {w : World} : (Gr w).glob (Str.ofString "len") (.raw (.builtin "len")) := .len
theorem g_ord {w : World} : (Gr w).glob (Str.ofString "ord") (.raw (.builtin "ord")) := .ord
theorem g_min {w : World} : (Gr w).glob (Str.ofString "min") (.raw (.builtin "min")) := .min
theorem g_sum {w : World} : (Gr w).glob (Str.ofString "sum") (.raw (.builtin "sum")) := .sum
theorem g_range {w : World} : (Gr w).glob (Str.ofString "range") (.raw (.type "range")) := .range
theorem g_bytes {w : World} : (Gr w).glob (Str.ofString "bytes") (.raw (.type "bytes")) := .bytes
end Mine
end
section
namespace Mine

/-! the plain part: texts are lists of numbers -/

/-- the leftmost place of w in got within lo .. hi -/
def findIn (got w : List Nat) (lo hi : Nat) : Option Nat :=
  (List.range' lo (hi + 1 - lo)).find? fun j => decide (j + w.length ≤ hi) && w.isPrefixOf (got.drop j)

def greedyLoop (got : List Nat) (hi : Nat) : Nat → List (List Nat) → Bool
  | _, [] => true
  | lo, w :: ws => match findIn got w lo hi with
    | none => false
    | some j => greedyLoop got hi (j + w.length) ws

/-- what _ellipsis_match says of the split pattern -/
def greedy (ws : List (List Nat)) (got : List Nat) : Bool :=
  let w0 := ws.headD []
  if w0 ≠ [] ∧ w0.isPrefixOf got = false then false else
  let ws1 := if w0 ≠ [] then ws.tail else ws
  let start := w0.length
  let wn := ws1.getLastD []
  if wn ≠ [] ∧ wn.isSuffixOf got = false then false else
  let ws2 := if wn ≠ [] then ws1.dropLast else ws1
  let stop := got.length - wn.length
  if start > stop then false else greedyLoop got stop start ws2

/-- the ends, by offsets -/
def offEnds (G As : List Nat) : List Nat → List (List Nat) → List Nat
  | es, [] => es
  | es, W :: Ws => match es.min? with
    | none => []
    | some m => offEnds G As (((As.filter (fun j => decide (m ≤ j))).filter fun j => W.isPrefixOf (G.drop j)).map (· + W.length)) Ws

def offEnds0 (G As : List Nat) : List (List Nat) → List Nat
  | [] => []
  | W :: Ws => offEnds G As (if W.isPrefixOf G then [W.length] else []) Ws

theorem findIn_none {got w : List Nat} {lo hi : Nat} (h : findIn got w lo hi = none) (j : Nat) (h1 : lo ≤ j) (h2 : j + w.length ≤ hi) : w.isPrefixOf (got.drop j) = false := by
  unfold findIn at h
  rw [List.find?_eq_none] at h
  have := h j (List.mem_range'_1.mpr ⟨h1, by omega⟩)
  simp only [Bool.and_eq_true, decide_eq_true_eq, not_and, Bool.not_eq_true] at this
  exact this h2

theorem findIn_some {got w : List Nat} {lo hi j : Nat} (h : findIn got w lo hi = some j) :
    lo ≤ j ∧ j + w.length ≤ hi ∧ w.isPrefixOf (got.drop j) = true ∧ ∀ i, lo ≤ i → i < j → w.isPrefixOf (got.drop i) = false := by
  unfold findIn at h
  rw [List.find?_range'_eq_some] at h
  obtain ⟨h1, h2, h3⟩ := h
  simp only [Bool.and_eq_true, decide_eq_true_eq] at h1
  have hm := List.mem_range'_1.mp h2
  refine ⟨hm.1, h1.1, h1.2, fun i hi1 hi2 => ?_⟩
  have := h3 i hi1 hi2
  simp only [Bool.not_eq_true', Bool.and_eq_false_iff, decide_eq_false_iff_not] at this
  rcases this with q | q
  · omega
  · exact q

end Mine
end
section
namespace Mine

theorem pre_iff {w l : List Nat} : w.isPrefixOf l = true ↔ w <+: l := List.isPrefixOf_iff_prefix

theorem pre_take_drop {w G : List Nat} {j k : Nat} (h : j + w.length ≤ k) : w <+: (G.take k).drop j ↔ w <+: G.drop j := by
  rw [List.drop_take]
  rw [List.prefix_take_iff]
  constructor
  · exact fun x => x.1
  · exact fun x => ⟨x, by omega⟩

theorem suf_take {w G : List Nat} {k : Nat} (hk : k ≤ G.length) : w <:+ G.take k ↔ w.length ≤ k ∧ w <+: G.drop (k - w.length) := by
  constructor
  · intro h
    have hl : w.length ≤ k := by have := h.length_le; rw [List.length_take] at this; omega
    refine ⟨hl, ?_⟩
    have e := List.suffix_iff_eq_drop.mp h
    rw [List.length_take, Nat.min_eq_left hk, List.drop_take] at e
    have h3 : k - (k - w.length) = w.length := by omega
    rw [h3] at e
    rw [List.prefix_iff_eq_take]; exact e
  · rintro ⟨hl, h⟩
    rw [List.suffix_iff_eq_drop, List.length_take, Nat.min_eq_left hk, List.drop_take]
    have h3 : k - (k - w.length) = w.length := by omega
    rw [h3]
    exact List.prefix_iff_eq_take.mp h

theorem min_ge {l : List Nat} {m b : Nat} (h : l.min? = some m) (hb : ∀ x ∈ l, b ≤ x) : b ≤ m := hb m (List.min?_mem h)

theorem offEnds_low (G As Wn : List Nat) : ∀ (mid : List (List Nat)) (es : List Nat) (x : Nat), x ∈ offEnds G As es (mid ++ [Wn]) →
    ∃ m j, es.min? = some m ∧ m ≤ j ∧ j ∈ As ∧ Wn <+: G.drop j ∧ x = j + Wn.length
  | [], es, x, h => by
    simp only [List.nil_append, offEnds] at h
    split at h
    · cases h
    · rename_i m hm
      simp only [List.mem_map, List.mem_filter, decide_eq_true_eq, pre_iff] at h
      obtain ⟨j, ⟨⟨h1, h2⟩, h3⟩, h4⟩ := h
      exact ⟨m, j, hm, h2, h1, h3, h4.symm⟩
  | W :: mid, es, x, h => by
    simp only [List.cons_append, offEnds] at h
    split at h
    · cases h
    · rename_i m hm
      obtain ⟨m', j, h1, h2, h3, h4, h5⟩ := offEnds_low G As Wn mid _ x h
      refine ⟨m, j, hm, Nat.le_trans ?_ h2, h3, h4, h5⟩
      refine min_ge h1 fun y hy => ?_
      simp only [List.mem_map, List.mem_filter, decide_eq_true_eq] at hy
      obtain ⟨a, ⟨⟨_, h7⟩, _⟩, h8⟩ := hy
      omega

theorem min_is {l : List Nat} {m : Nat} (h : m ∈ l) (hb : ∀ x ∈ l, m ≤ x) : l.min? = some m := by
  rw [List.min?_eq_some_iff]
  exact ⟨h, hb⟩

theorem offEnds_loop {G As Wn : List Nat} {k hi : Nat} (hk : k ≤ G.length) (hhi : hi + Wn.length = k) (hsuf : Wn <+: G.drop hi) (hiA : hi ∈ As) : ∀ (mid : List (List Nat)) (es : List Nat) (m : Nat),
    (∀ W ∈ mid, ∀ j ∈ As, W <+: G.drop j → j + W.length ∈ As) → (∀ W ∈ mid, ∀ j, j ≤ G.length → W ≠ [] → W <+: G.drop j → j ∈ As) → m ∈ As → m ≤ hi → es.min? = some m →
    (k ∈ offEnds G As es (mid ++ [Wn]) ↔ greedyLoop (G.take k) hi m mid = true)
  | [], es, m, _, _, _, hm, hes => by
    simp only [List.nil_append, offEnds, hes, greedyLoop, iff_true, List.mem_map, List.mem_filter, decide_eq_true_eq, pre_iff]
    exact ⟨hi, ⟨⟨hiA, hm⟩, hsuf⟩, hhi⟩
  | W :: mid, es, m, h1, h2, hmA, hm, hes => by
    simp only [List.cons_append, offEnds, hes, greedyLoop]
    cases hf : findIn (G.take k) W m hi with
    | none =>
      simp only [Bool.false_eq_true, iff_false]
      intro hx
      obtain ⟨m', j, a1, a2, a3, a4, a5⟩ := offEnds_low G As Wn mid _ k hx
      have hm' := List.min?_mem a1
      simp only [List.mem_map, List.mem_filter, decide_eq_true_eq, pre_iff] at hm'
      obtain ⟨i, ⟨⟨_, b2⟩, b3⟩, b4⟩ := hm'
      have := findIn_none hf i b2 (by omega)
      rw [← Bool.not_eq_true, pre_iff, pre_take_drop (by omega)] at this
      exact this b3
    | some j =>
      obtain ⟨c1, c2, c3, c4⟩ := findIn_some hf
      rw [pre_iff, pre_take_drop (by omega)] at c3
      have hjA : j ∈ As := by
        by_cases hW : W = []
        · subst hW
          by_cases hj : j = m
          · exact hj ▸ hmA
          · have := c4 m (Nat.le_refl _) (by omega)
            simp at this
        · exact h2 W (.head _) j (by omega) hW c3
      refine offEnds_loop hk hhi hsuf hiA mid _ (j + W.length) (fun V hV => h1 V (.tail _ hV)) (fun V hV => h2 V (.tail _ hV)) (h1 W (.head _) j hjA c3) c2 ?_
      refine min_is ?_ fun x hx => ?_
      · simp only [List.mem_map, List.mem_filter, decide_eq_true_eq, pre_iff]
        exact ⟨j, ⟨⟨hjA, c1⟩, c3⟩, rfl⟩
      · simp only [List.mem_map, List.mem_filter, decide_eq_true_eq, pre_iff] at hx
        obtain ⟨i, ⟨⟨_, b2⟩, b3⟩, b4⟩ := hx
        by_cases hij : i < j
        · have := c4 i b2 hij
          rw [← Bool.not_eq_true, pre_iff, pre_take_drop (by omega)] at this
          exact absurd b3 this
        · omega

theorem findIn_nil {got : List Nat} {lo hi : Nat} (h : lo ≤ hi) : findIn got [] lo hi = some lo := by
  unfold findIn
  rw [List.find?_range'_eq_some]
  refine ⟨by simp; exact h, List.mem_range'_1.mpr ⟨Nat.le_refl _, by omega⟩, fun i h1 h2 => by omega⟩

theorem greedyLoop_head {got : List Nat} {lo hi : Nat} {ws : List (List Nat)} (h : lo ≤ hi) : greedyLoop got hi lo ([] :: ws) = greedyLoop got hi lo ws := by
  simp only [greedyLoop, findIn_nil h, List.length_nil, Nat.add_zero]

theorem greedyLoop_last {got : List Nat} {hi : Nat} : ∀ {ws : List (List Nat)} {lo : Nat}, lo ≤ hi → greedyLoop got hi lo (ws ++ [[]]) = greedyLoop got hi lo ws
  | [], lo, h => by simp only [List.nil_append, greedyLoop, findIn_nil h]
  | w :: ws, lo, h => by
    simp only [List.cons_append, greedyLoop]
    cases hf : findIn got w lo hi with
    | none => rfl
    | some j => exact greedyLoop_last (findIn_some hf).2.1

theorem greedy_eq {W0 Wn got : List Nat} {mid : List (List Nat)} :
    greedy (W0 :: (mid ++ [Wn])) got = (W0.isPrefixOf got && (Wn.isSuffixOf got && (decide (W0.length ≤ got.length - Wn.length) && greedyLoop got (got.length - Wn.length) W0.length mid))) := by
  unfold greedy
  have e1 : ((W0 :: (mid ++ [Wn])).headD []) = W0 := rfl
  simp only [e1]
  by_cases hp : W0.isPrefixOf got = true
  · have hc : ¬ (W0 ≠ [] ∧ W0.isPrefixOf got = false) := fun x => by rw [hp] at x; exact absurd x.2 (by decide)
    rw [if_neg hc, hp, Bool.true_and]
    have e2 : (if W0 ≠ [] then (W0 :: (mid ++ [Wn])).tail else W0 :: (mid ++ [Wn])) = (if W0 = [] then [[]] else []) ++ mid ++ [Wn] := by
      by_cases h0 : W0 = []
      · subst h0; simp
      · simp [h0]
    rw [e2]
    have e3 : (((if W0 = [] then [[]] else []) ++ mid ++ [Wn]).getLastD []) = Wn := by simp
    rw [e3]
    by_cases hs : Wn.isSuffixOf got = true
    · have hc : ¬ (Wn ≠ [] ∧ Wn.isSuffixOf got = false) := fun x => by rw [hs] at x; exact absurd x.2 (by decide)
      rw [if_neg hc, hs, Bool.true_and]
      by_cases hl : W0.length ≤ got.length - Wn.length
      · rw [if_neg (by omega)]
        simp only [hl, decide_true, Bool.true_and]
        have e4 : greedyLoop got (got.length - Wn.length) W0.length ((if W0 = [] then [[]] else []) ++ mid) = greedyLoop got (got.length - Wn.length) W0.length mid := by
          by_cases h0 : W0 = []
          · simp only [h0, if_true, List.singleton_append]
            exact greedyLoop_head (by rw [h0] at hl; exact hl)
          · simp [h0]
        by_cases hn : Wn = []
        · simp only [hn, ne_eq, not_true_eq_false, if_false]
          rw [hn] at hl e4
          rw [greedyLoop_last hl]
          exact e4
        · rw [if_pos hn, List.dropLast_concat]
          exact e4
      · rw [if_pos (by omega)]
        simp [hl]
    · have hs' : Wn.isSuffixOf got = false := Bool.eq_false_iff.mpr hs
      have hn : Wn ≠ [] := fun e => by subst e; simp at hs'
      rw [if_pos ⟨hn, hs'⟩, hs', Bool.false_and]
  · have hp' : W0.isPrefixOf got = false := Bool.eq_false_iff.mpr hp
    have h0 : W0 ≠ [] := fun e => by subst e; simp at hp'
    rw [if_pos ⟨h0, hp'⟩, hp', Bool.false_and]

/-- THE PLAIN HEART: greedy matching of a front of G is having an end there -/
theorem heart {G As : List Nat} {k : Nat} (hk : k ≤ G.length) (hA0 : 0 ∈ As) (hAk : k ∈ As) (W0 : List Nat) (rest : List (List Nat))
    (hA1 : ∀ W ∈ W0 :: rest, ∀ j ∈ As, W <+: G.drop j → j + W.length ∈ As) (hA2 : ∀ W ∈ W0 :: rest, ∀ j, j ≤ G.length → W ≠ [] → W <+: G.drop j → j ∈ As) :
    (if rest = [] then W0 == G.take k else greedy (W0 :: rest) (G.take k)) = decide (k ∈ offEnds0 G As (W0 :: rest)) := by
  rw [Bool.eq_iff_iff, decide_eq_true_eq]
  by_cases hr : rest = []
  · subst hr
    simp only [if_true, beq_iff_eq, offEnds0, offEnds]
    by_cases hp : W0.isPrefixOf G = true
    · simp only [hp, if_true, List.mem_singleton]
      have e := List.prefix_iff_eq_take.mp (pre_iff.mp hp)
      constructor
      · intro h; rw [h, List.length_take]; omega
      · intro h; rw [h]; exact e
    · simp only [hp, if_false, Bool.false_eq_true, List.not_mem_nil, iff_false]
      intro h
      exact hp (pre_iff.mpr (h ▸ List.take_prefix _ _))
  · rw [if_neg hr]
    obtain ⟨mid, Wn, rfl⟩ : ∃ mid Wn, rest = mid ++ [Wn] := ⟨rest.dropLast, rest.getLast hr, (List.dropLast_concat_getLast hr).symm⟩
    rw [greedy_eq]
    have hgl : (G.take k).length = k := by rw [List.length_take]; omega
    simp only [Bool.and_eq_true, decide_eq_true_eq, pre_iff, List.isSuffixOf_iff_suffix, hgl, offEnds0]
    constructor
    · rintro ⟨h1, h2, h3, h4⟩
      have hp : W0 <+: G := h1.trans (List.take_prefix _ _)
      obtain ⟨h5, h6⟩ := (suf_take hk).mp h2
      rw [if_pos (by exact hp)]
      have hiA : k - Wn.length ∈ As := by
        by_cases hn : Wn = []
        · subst hn; exact hAk
        · exact hA2 Wn (by simp) _ (by omega) hn h6
      have h0A : W0.length ∈ As := by
        have := hA1 W0 (.head _) 0 hA0 (by simpa using hp)
        simpa using this
      exact (offEnds_loop hk (by omega) h6 hiA mid [W0.length] W0.length (fun W hW => hA1 W (by simp [hW])) (fun W hW => hA2 W (by simp [hW])) h0A h3 rfl).mpr h4
    · intro h
      have hlow := offEnds_low G As Wn mid _ k h
      obtain ⟨m, j, a1, a2, a3, a4, a5⟩ := hlow
      by_cases hp : W0 <+: G
      · rw [if_pos hp] at h a1
        have hm : m = W0.length := by simpa using a1.symm
        subst hm
        have hj : j = k - Wn.length := by omega
        subst hj
        refine ⟨?_, (suf_take hk).mpr ⟨by omega, a4⟩, a2, ?_⟩
        · rw [List.prefix_take_iff]; exact ⟨hp, by omega⟩
        · have h0A : W0.length ∈ As := by
            have := hA1 W0 (.head _) 0 hA0 (by simpa using hp)
            simpa using this
          exact (offEnds_loop hk (by omega) a4 a3 mid [W0.length] W0.length (fun W hW => hA1 W (by simp [hW])) (fun W hW => hA2 W (by simp [hW])) h0A a2 rfl).mp h
      · rw [if_neg hp] at a1; cases a1

end Mine
end
section
namespace Mine

def hexd (n : Nat) : Nat := if n < 10 then 48 + n else 55 + n
/-- the two figures of a sign; 126 stands for an escaped blank -/
def fig (c : Nat) : List Nat := if c = 126 then [50, 48] else [hexd (c / 16), hexd (c % 16)]
/-- a sign's writing -/
def cw (esc : List Nat) (u : Nat → Nat) (c : Nat) : List Nat := if c ∈ esc then 61 :: fig c else [u c]
def enc (esc : List Nat) (u : Nat → Nat) (t : List Nat) : List Nat := t.flatMap (cw esc u)

/-- _law_places -/
def plcF (esc : List Nat) : Nat → List Nat → List Nat
  | i, [] => [3 * i]
  | i, c :: r => (if c ∈ esc then [3 * i, 3 * i + 1, 3 * i + 2] else [3 * i]) ++ plcF esc (i + 1) r

/-- _law_led; none for -1 -/
def led (place : Nat) (piece text : List Nat) : Option Nat :=
  let tail := if place % 3 > 0 then (fig (text.getD (place / 3) 0)).drop (place % 3 - 1) else []
  if piece = tail.take piece.length then some (place + piece.length) else
  let front := if place % 3 > 0 then place / 3 + 1 else place / 3
  let rest := piece.drop tail.length
  if piece.take tail.length = tail ∧ (text.drop front).take rest.length = rest then some (3 * (front + rest.length)) else none

def endsAux (text places : List Nat) : List Nat → List (List Nat) → List Nat
  | es, [] => es
  | es, p :: ps => match es.min? with
    | none => []
    | some m => endsAux text places ((places.filter (fun x => decide (m ≤ x))).filterMap (fun x => led x p text)) ps

/-- _law_ends -/
def ends (pieces : List (List Nat)) (text esc : List Nat) : List Nat := match pieces with
  | [] => []
  | p :: ps => endsAux text (plcF esc 0 text) (led 0 p text).toList ps

theorem min_map {P : Nat → Nat} {As : List Nat} (hmono : ∀ a ∈ As, ∀ b ∈ As, a < b → P a < P b) : ∀ es : List Nat, (∀ x ∈ es, x ∈ As) → (es.map P).min? = es.min?.map P := by
  intro es hs
  cases hm : es.min? with
  | none => rw [List.min?_eq_none_iff] at hm; subst hm; rfl
  | some m =>
    have h1 := List.min?_mem hm
    rw [Option.map_some]
    refine min_is (List.mem_map_of_mem h1) fun x hx => ?_
    obtain ⟨y, hy, rfl⟩ := List.mem_map.mp hx
    have h2 : m ≤ y := (List.min?_eq_some_iff.mp hm).2 y hy
    rcases Nat.lt_or_eq_of_le h2 with q | q
    · exact Nat.le_of_lt (hmono m (hs m h1) y (hs y hy) q)
    · subst q; exact Nat.le_refl _

theorem ends_off {As G t : List Nat} {P : Nat → Nat} {en : List Nat → List Nat} (hmono : ∀ a ∈ As, ∀ b ∈ As, a < b → P a < P b) : ∀ (ps : List (List Nat)) (es : List Nat),
    (∀ p ∈ ps, ∀ j ∈ As, led (P j) p t = if (en p).isPrefixOf (G.drop j) then some (P (j + (en p).length)) else none) →
    (∀ p ∈ ps, ∀ j ∈ As, en p <+: G.drop j → j + (en p).length ∈ As) → (∀ x ∈ es, x ∈ As) →
    endsAux t (As.map P) (es.map P) ps = (offEnds G As es (ps.map en)).map P ∧ ∀ x ∈ offEnds G As es (ps.map en), x ∈ As
  | [], es, _, _, hs => ⟨rfl, hs⟩
  | p :: ps, es, hl, hc, hs => by
    simp only [endsAux, List.map_cons, offEnds, min_map hmono es hs]
    cases hm : es.min? with
    | none => simp
    | some m =>
      simp only [Option.map_some]
      have hmA := hs m (List.min?_mem hm)
      have e : ((As.map P).filter (fun x => decide (P m ≤ x))).filterMap (fun x => led x p t) =
          (((As.filter (fun j => decide (m ≤ j))).filter fun j => (en p).isPrefixOf (G.drop j)).map (· + (en p).length)).map P := by
        rw [List.filter_map, List.filterMap_map, List.map_map]
        have e1 : As.filter ((fun x => decide (P m ≤ x)) ∘ P) = As.filter (fun j => decide (m ≤ j)) := by
          refine List.filter_congr fun j hj => ?_
          simp only [Function.comp]
          rw [Bool.eq_iff_iff, decide_eq_true_eq, decide_eq_true_eq]
          constructor
          · intro h
            rcases Nat.lt_or_ge j m with q | q
            · have := hmono j hj m hmA q; omega
            · exact q
          · intro h
            rcases Nat.lt_or_eq_of_le h with q | q
            · exact Nat.le_of_lt (hmono m hmA j hj q)
            · subst q; exact Nat.le_refl _
        rw [e1]
        have e2 : ∀ l : List Nat, (∀ x ∈ l, x ∈ As) → l.filterMap ((fun x => led x p t) ∘ P) = (l.filter fun j => (en p).isPrefixOf (G.drop j)).map (P ∘ fun x => x + (en p).length) := by
          intro l
          induction l with
          | nil => intro _; rfl
          | cons x l ih =>
            intro hx
            have hlx := hl p (.head _) x (hx x (.head _))
            rw [List.filterMap_cons, List.filter_cons]
            simp only [Function.comp, hlx]
            by_cases hp : (en p).isPrefixOf (G.drop x) = true
            · simp only [hp, if_true, List.map_cons]
              exact congrArg _ (ih fun y hy => hx y (.tail _ hy))
            · simp only [hp, if_false, Bool.false_eq_true]
              exact ih fun y hy => hx y (.tail _ hy)
        exact e2 _ fun x hx => (List.mem_filter.mp hx).1
      rw [e]
      refine ends_off hmono ps _ (fun q hq => hl q (.tail _ hq)) (fun q hq => hc q (.tail _ hq)) fun x hx => ?_
      obtain ⟨y, hy, rfl⟩ := List.mem_map.mp hx
      have hy2 := List.mem_filter.mp hy
      exact hc p (.head _) y (List.mem_filter.mp hy2.1).1 (pre_iff.mp hy2.2)

/-- what the law asks, in the plain: the end at place P k is had just if the front of G that ends at k is matched -/
theorem asked {As G t : List Nat} {P : Nat → Nat} {en : List Nat → List Nat} (hmono : ∀ a ∈ As, ∀ b ∈ As, a < b → P a < P b) (p0 : List Nat) (ps : List (List Nat)) {places : List Nat} (hpl : places = As.map P) (hP0 : P 0 = 0)
    (hl : ∀ p ∈ p0 :: ps, ∀ j ∈ As, led (P j) p t = if (en p).isPrefixOf (G.drop j) then some (P (j + (en p).length)) else none)
    (hc : ∀ p ∈ p0 :: ps, ∀ j ∈ As, en p <+: G.drop j → j + (en p).length ∈ As) (hA2 : ∀ p ∈ p0 :: ps, ∀ j, j ≤ G.length → en p ≠ [] → en p <+: G.drop j → j ∈ As)
    {k : Nat} (hk : k ≤ G.length) (hA0 : 0 ∈ As) (hAk : k ∈ As) :
    (if ps = [] then en p0 == G.take k else greedy ((p0 :: ps).map en) (G.take k)) = decide (P k ∈ endsAux t places (led 0 p0 t).toList ps) := by
  have h := heart hk hA0 hAk (en p0) (ps.map en) (fun W hW j hj hp => by
    rw [← List.map_cons (f := en)] at hW
    obtain ⟨p, hp', rfl⟩ := List.mem_map.mp hW
    exact hc p hp' j hj hp) (fun W hW j hj hn hp => by
    rw [← List.map_cons (f := en)] at hW
    obtain ⟨p, hp', rfl⟩ := List.mem_map.mp hW
    exact hA2 p hp' j hj hn hp)
  simp only [List.map_eq_nil_iff] at h
  rw [List.map_cons, h]
  subst hpl
  have h0 := hl p0 (.head _) 0 hA0
  rw [hP0] at h0
  have hinit : (led 0 p0 t).toList = ((if (en p0).isPrefixOf G then [(en p0).length] else []) : List Nat).map P := by
    rw [h0]
    simp only [List.drop_zero, Nat.zero_add]
    split <;> rfl
  have hs : ∀ x ∈ ((if (en p0).isPrefixOf G then [(en p0).length] else []) : List Nat), x ∈ As := by
    intro x hx
    split at hx
    · rename_i hp
      have := hc p0 (.head _) 0 hA0 (by simpa using pre_iff.mp hp)
      simp only [List.mem_singleton] at hx
      subst hx
      simpa using this
    · cases hx
  obtain ⟨e1, e2⟩ := ends_off hmono ps _ (fun q hq => hl q (.tail _ hq)) (fun q hq => hc q (.tail _ hq)) hs
  rw [hinit, e1]
  rw [Bool.eq_iff_iff, decide_eq_true_eq, decide_eq_true_eq]
  simp only [offEnds0]
  constructor
  · intro hx; exact List.mem_map_of_mem hx
  · intro hx
    obtain ⟨y, hy, hyk⟩ := List.mem_map.mp hx
    have : y = k := by
      rcases Nat.lt_trichotomy y k with q | q | q
      · have := hmono y (e2 y hy) k hAk q; omega
      · exact q
      · have := hmono k hAk y (e2 y hy) q; omega
    exact this ▸ hy

end Mine
end
section
set_option linter.unusedVariables false
namespace Mine

/-! the codes -/
structure CodeZ (Al esc : List Nat) (u : Nat → Nat) : Prop where
  h61 : ∀ e ∈ Al, e ∈ esc → ∀ h ∈ fig e, h ≠ 61
  h2 : ∀ c ∈ Al, c ∉ esc → u c ≠ 61
  h3 : ∀ c ∈ Al, ∀ d ∈ Al, c ∉ esc → d ∉ esc → u c = u d → c = d
  h4 : ∀ c ∈ Al, ∀ d ∈ Al, c ∈ esc → d ∈ esc → fig c = fig d → c = d
structure CodeT (Al esc : List Nat) (u : Nat → Nat) : Prop extends CodeZ Al esc u where
  h5 : ∀ c ∈ Al, c ∉ esc → ∀ e ∈ Al, e ∈ esc → ∀ h ∈ fig e, (u c = h ↔ c = h)
  h6 : ∀ e ∈ Al, e ∈ esc → ∀ h ∈ fig e, h ≠ 61 ∧ h ≠ 46 ∧ h ∉ esc

theorem fig_two (c : Nat) : ∃ a b, fig c = [a, b] := by unfold fig; split <;> exact ⟨_, _, rfl⟩
theorem enc_cons (esc : List Nat) (u : Nat → Nat) (c : Nat) (t : List Nat) : enc esc u (c :: t) = cw esc u c ++ enc esc u t := rfl
theorem enc_append (esc : List Nat) (u : Nat → Nat) (a b : List Nat) : enc esc u (a ++ b) = enc esc u a ++ enc esc u b := List.flatMap_append ..
theorem cw_in {esc : List Nat} {u : Nat → Nat} {c : Nat} (h : c ∈ esc) : cw esc u c = 61 :: fig c := if_pos h
theorem cw_out {esc : List Nat} {u : Nat → Nat} {c : Nat} (h : c ∉ esc) : cw esc u c = [u c] := if_neg h
theorem cw_pos (esc : List Nat) (u : Nat → Nat) (c : Nat) : 0 < (cw esc u c).length := by unfold cw; split <;> simp
theorem enc_nil {esc : List Nat} {u : Nat → Nat} {t : List Nat} (h : enc esc u t = []) : t = [] := by
  cases t with
  | nil => rfl
  | cons c r =>
    have := cw_pos esc u c
    rw [enc_cons] at h
    have := congrArg List.length h
    simp only [List.length_append, List.length_nil] at this; omega

section
variable {Al esc : List Nat} {u : Nat → Nat}

theorem enc_pre (C : CodeZ Al esc u) : ∀ {p s : List Nat}, (∀ c ∈ p, c ∈ Al) → (∀ c ∈ s, c ∈ Al) → (enc esc u p <+: enc esc u s ↔ p <+: s)
  | [], s, _, _ => by simp [enc]
  | c :: p, [], _, _ => by
    constructor
    · intro h
      have h2 := h.length_le
      have := cw_pos esc u c
      rw [enc_cons, List.length_append] at h2
      have h0 : (enc esc u ([] : List Nat)).length = 0 := rfl
      omega
    · intro h; simp at h
  | c :: p, d :: s, hp, hs => by
    have hc := hp c (List.mem_cons_self ..)
    have hd := hs d (List.mem_cons_self ..)
    have ih := enc_pre C (p := p) (s := s) (fun x hx => hp x (List.mem_cons_of_mem _ hx)) (fun x hx => hs x (List.mem_cons_of_mem _ hx))
    rw [enc_cons, enc_cons, List.cons_prefix_cons, ← ih]
    by_cases e1 : c ∈ esc
    · by_cases e2 : d ∈ esc
      · rw [cw_in e1, cw_in e2]
        obtain ⟨a, b, h1⟩ := fig_two c
        obtain ⟨a', b', h1'⟩ := fig_two d
        constructor
        · intro h
          rw [h1, h1'] at h
          simp only [List.cons_append, List.nil_append, List.cons_prefix_cons, true_and] at h
          refine ⟨C.h4 c hc d hd e1 e2 ?_, h.2.2⟩
          rw [h1, h1', h.1, h.2.1]
        · rintro ⟨rfl, h⟩
          exact (List.prefix_append_right_inj _).mpr h
      · rw [cw_in e1, cw_out e2]
        constructor
        · intro h
          simp only [List.cons_append, List.nil_append, List.cons_prefix_cons] at h
          exact absurd h.1.symm (C.h2 d hd e2)
        · rintro ⟨rfl, _⟩; exact absurd e1 e2
    · by_cases e2 : d ∈ esc
      · rw [cw_out e1, cw_in e2]
        constructor
        · intro h
          simp only [List.cons_append, List.nil_append, List.cons_prefix_cons] at h
          exact absurd h.1 (C.h2 c hc e1)
        · rintro ⟨rfl, _⟩; exact absurd e2 e1
      · rw [cw_out e1, cw_out e2]
        simp only [List.cons_append, List.nil_append, List.cons_prefix_cons]
        constructor
        · rintro ⟨h, h'⟩; exact ⟨C.h3 c hc d hd e1 e2 h, h'⟩
        · rintro ⟨rfl, h'⟩; exact ⟨rfl, h'⟩

/-- a front that is torn -/
theorem enc_torn (C : CodeT Al esc u) {e : Nat} (he : e ∈ Al) (hee : e ∈ esc) : ∀ {tl p s : List Nat}, (∀ h ∈ tl, h ∈ fig e) → (∀ c ∈ p, c ∈ Al) → (∀ c ∈ s, c ∈ Al) →
    (enc esc u p <+: tl ++ enc esc u s ↔ (p = tl.take p.length ∨ (p.take tl.length = tl ∧ p.drop tl.length <+: s))) ∧ (p = tl.take p.length → (enc esc u p).length = p.length) ∧ (p.take tl.length = tl → (enc esc u p).length = tl.length + (enc esc u (p.drop tl.length)).length)
  | [], p, s, _, hp, hs => by
    refine ⟨?_, ?_, ?_⟩
    · rw [List.nil_append, enc_pre C.toCodeZ hp hs]
      simp only [List.take_nil, List.length_nil, List.take_zero, List.drop_zero, true_and]
      constructor
      · exact Or.inr
      · rintro (h | h)
        · rw [h]; exact List.nil_prefix
        · exact h
    · intro h; rw [List.take_nil] at h; rw [h]; rfl
    · intro _; simp
  | h :: tl, [], s, _, _, _ => by simp [enc]
  | h :: tl, c :: p, s, ht, hp, hs => by
    have hc := hp c (List.mem_cons_self ..)
    have hh := ht h (List.mem_cons_self ..)
    obtain ⟨i1, i2, i3⟩ := enc_torn C he hee (tl := tl) (p := p) (s := s) (fun x hx => ht x (List.mem_cons_of_mem _ hx)) (fun x hx => hp x (List.mem_cons_of_mem _ hx)) hs
    obtain ⟨h61, _, hns⟩ := C.h6 e he hee h hh
    by_cases e1 : c ∈ esc
    · have hne : c ≠ h := fun q => hns (q ▸ e1)
      refine ⟨?_, ?_, ?_⟩
      · constructor
        · intro q
          rw [enc_cons, cw_in e1] at q
          simp only [List.cons_append, List.cons_prefix_cons] at q
          exact absurd q.1.symm h61
        · rintro (q | q)
          · simp at q; exact absurd q.1 hne
          · simp at q; exact absurd q.1.1 hne
      · intro q; simp at q; exact absurd q.1 hne
      · intro q; simp at q; exact absurd q.1 hne
    · have h5 := C.h5 c hc e1 e he hee h hh
      refine ⟨?_, ?_, ?_⟩
      · rw [enc_cons, cw_out e1]
        simp only [List.cons_append, List.nil_append, List.cons_prefix_cons, h5, i1, List.length_cons, List.take_succ_cons, List.drop_succ_cons, List.cons.injEq]
        constructor
        · rintro ⟨q, r | r⟩
          · exact .inl ⟨q, r⟩
          · exact .inr ⟨⟨q, r.1⟩, r.2⟩
        · rintro (r | r)
          · exact ⟨r.1, .inl r.2⟩
          · exact ⟨r.1.1, .inr ⟨r.1.2, r.2⟩⟩
      · intro q
        simp only [List.length_cons, List.take_succ_cons, List.cons.injEq] at q
        rw [enc_cons, cw_out e1, List.length_append, List.length_cons, List.length_cons, i2 q.2]; simp; omega
      · intro q
        simp only [List.length_cons, List.take_succ_cons, List.cons.injEq] at q
        rw [enc_cons, cw_out e1, List.length_append, List.length_cons, List.length_cons, i3 q.2, List.drop_succ_cons]; simp; omega

/-- an offset of the writing is a place of the text -/
theorem viewAt : ∀ (t : List Nat) (j : Nat), j ≤ (enc esc u t).length → ∃ m am, j = (enc esc u (t.take m)).length + am ∧ m ≤ t.length ∧ (am = 0 ∨ (am < 3 ∧ ∃ c r, t.drop m = c :: r ∧ c ∈ esc))
  | [], j, h => ⟨0, 0, by simp [enc] at h; simp [enc, h], Nat.le_refl _, .inl rfl⟩
  | c :: r, j, h => by
    rw [enc_cons, List.length_append] at h
    by_cases hj : j < (cw esc u c).length
    · refine ⟨0, j, by simp [enc], Nat.zero_le _, ?_⟩
      by_cases e : c ∈ esc
      · rw [cw_in e] at hj
        obtain ⟨a, b, h1⟩ := fig_two c
        rw [h1] at hj
        exact .inr ⟨hj, c, r, rfl, e⟩
      · rw [cw_out e] at hj
        simp at hj; exact .inl hj
    · obtain ⟨m, am, h1, h2, h3⟩ := viewAt r (j - (cw esc u c).length) (by omega)
      refine ⟨m + 1, am, ?_, Nat.succ_le_succ h2, ?_⟩
      · rw [List.take_succ_cons, enc_cons, List.length_append]; omega
      · simpa using h3
theorem drop_view {t : List Nat} {m am : Nat} (hm : m ≤ t.length) : (enc esc u t).drop ((enc esc u (t.take m)).length + am) = (enc esc u (t.drop m)).drop am := by
  have : enc esc u t = enc esc u (t.take m) ++ enc esc u (t.drop m) := by rw [← enc_append, List.take_append_drop]
  rw [← List.drop_drop, this, List.drop_left]
theorem drop_torn {c am : Nat} {r : List Nat} (hc : c ∈ esc) (h : am < 3) : (enc esc u (c :: r)).drop am = (if am = 0 then [61] else []) ++ (fig c).drop (am - 1) ++ enc esc u r := by
  rw [enc_cons, cw_in hc]
  obtain ⟨a, b, h1⟩ := fig_two c
  rw [h1]
  match am, h with
  | 0, _ => rfl
  | 1, _ => rfl
  | 2, _ => rfl
theorem plc_len : ∀ (t : List Nat) (i : Nat), (plcF esc i t).length = (enc esc u t).length + 1
  | [], _ => rfl
  | c :: r, i => by
    rw [enc_cons, List.length_append]
    show ((if c ∈ esc then [3 * i, 3 * i + 1, 3 * i + 2] else [3 * i]) ++ plcF esc (i + 1) r).length = _
    rw [List.length_append, plc_len r (i + 1)]
    by_cases e : c ∈ esc
    · rw [if_pos e, cw_in e]; obtain ⟨a, b, h1⟩ := fig_two c; rw [h1]; simp; omega
    · rw [if_neg e, cw_out e]; simp; omega
theorem plc_at : ∀ (t : List Nat) (i m am : Nat), m ≤ t.length → (am = 0 ∨ (am < 3 ∧ ∃ c r, t.drop m = c :: r ∧ c ∈ esc)) → (plcF esc i t)[(enc esc u (t.take m)).length + am]? = some (3 * (i + m) + am)
  | [], i, m, am, hm, h => by
    have : m = 0 := by simpa using hm
    subst this
    rcases h with rfl | ⟨_, c, r, h, _⟩
    · rfl
    · simp at h
  | c :: r, i, 0, am, _, h => by
    show ((if c ∈ esc then [3 * i, 3 * i + 1, 3 * i + 2] else [3 * i]) ++ plcF esc (i + 1) r)[(enc esc u []).length + am]? = _
    rw [show (enc esc u ([] : List Nat)).length + am = am by simp [enc]]
    rcases h with rfl | ⟨h1, c', r', h2, h3⟩
    · split <;> rfl
    · simp only [List.drop_zero, List.cons.injEq] at h2
      rw [if_pos (h2.1 ▸ h3)]
      match am, h1 with
      | 0, _ => rfl
      | 1, _ => rfl
      | 2, _ => rfl
  | c :: r, i, m + 1, am, hm, h => by
    have ih := plc_at r (i + 1) m am (Nat.le_of_succ_le_succ hm) (by simpa using h)
    show ((if c ∈ esc then [3 * i, 3 * i + 1, 3 * i + 2] else [3 * i]) ++ plcF esc (i + 1) r)[_]? = _
    rw [List.take_succ_cons, enc_cons, List.length_append]
    have hl : (if c ∈ esc then [3 * i, 3 * i + 1, 3 * i + 2] else [3 * i]).length = (cw esc u c).length := by
      by_cases e : c ∈ esc
      · rw [if_pos e, cw_in e]; obtain ⟨a, b, h1⟩ := fig_two c; rw [h1]; rfl
      · rw [if_neg e, cw_out e]; rfl
    rw [List.getElem?_append_right (by omega), hl, show (cw esc u c).length + (enc esc u (r.take m)).length + am - (cw esc u c).length = (enc esc u (r.take m)).length + am by omega, ih]
    congr 1; omega
theorem plc_ge : ∀ (t : List Nat) (i : Nat), (plcF esc i t).Pairwise (· < ·) ∧ ∀ q ∈ plcF esc i t, 3 * i ≤ q
  | [], i => by simp [plcF]
  | c :: r, i => by
    obtain ⟨h1, h2⟩ := plc_ge r (i + 1)
    unfold plcF
    refine ⟨List.pairwise_append.mpr ⟨?_, h1, ?_⟩, ?_⟩
    · split <;> simp
    · intro a ha b hb
      have := h2 b hb
      split at ha <;> simp at ha <;> omega
    · intro q hq
      rcases List.mem_append.mp hq with hq | hq
      · split at hq <;> simp at hq <;> omega
      · have := h2 q hq; omega

/-- THE TORN QUESTION -/
theorem askedTorn (C : CodeT Al esc u) {t p0 : List Nat} {ps : List (List Nat)} (ht : ∀ c ∈ t, c ∈ Al) (hp : ∀ p ∈ p0 :: ps, ∀ c ∈ p, c ∈ Al) {k : Nat} (hk : k ≤ (enc esc u t).length) :
    (if ps = [] then enc esc u p0 == (enc esc u t).take k else greedy ((p0 :: ps).map (enc esc u)) ((enc esc u t).take k)) = decide ((plcF esc 0 t).getD k 0 ∈ ends (p0 :: ps) t esc) := by
  have hlen := plc_len (esc := esc) (u := u) t 0
  have hmem : ∀ j, j ∈ List.range ((enc esc u t).length + 1) ↔ j ≤ (enc esc u t).length := fun j => by rw [List.mem_range]; omega
  have hP : ∀ {m am : Nat}, m ≤ t.length → (am = 0 ∨ (am < 3 ∧ ∃ c r, t.drop m = c :: r ∧ c ∈ esc)) → (plcF esc 0 t).getD ((enc esc u (t.take m)).length + am) 0 = 3 * m + am := fun hm h => by
    rw [List.getD_eq_getElem?_getD, plc_at (u := u) t 0 _ _ hm h, Nat.zero_add]; rfl
  refine asked (As := List.range ((enc esc u t).length + 1)) (G := enc esc u t) (t := t) (P := fun j => (plcF esc 0 t).getD j 0) (en := enc esc u) ?_ p0 ps (places := plcF esc 0 t) ?_ ?_ ?_ ?_ ?_ hk ?_ ?_
  · intro a ha b hb hab
    rw [hmem] at ha hb
    have := List.pairwise_iff_getElem.mp (plc_ge (esc := esc) t 0).1 a b (by omega) (by omega) hab
    simp only [List.getD_eq_getElem?_getD]
    rw [List.getElem?_eq_getElem (by omega), List.getElem?_eq_getElem (by omega)]
    exact this
  · refine List.ext_getElem ?_ fun i h1 h2 => ?_
    · rw [List.length_map, List.length_range]; exact hlen
    · simp only [List.getElem_map, List.getElem_range]
      rw [List.getD_eq_getElem?_getD, List.getElem?_eq_getElem h1]; rfl
  · have := hP (m := 0) (am := 0) (Nat.zero_le _) (.inl rfl)
    simpa [enc] using this
  · intro p hpm j hj
    rw [hmem] at hj
    have hpa := hp p hpm
    obtain ⟨m, am, h1, h2, h3⟩ := viewAt (u := u) (esc := esc) t j hj
    have hPj := hP h2 h3
    subst h1
    rw [drop_view h2]
    rw [hPj]
    have hsub : ∀ n, ∀ c ∈ t.drop n, c ∈ Al := fun n c hc => ht c (List.mem_of_mem_drop hc)
    -- what stands behind a whole front
    have whole : ∀ (front : Nat) (rest : List Nat), front ≤ t.length → rest <+: t.drop front → (plcF esc 0 t).getD ((enc esc u (t.take front)).length + (enc esc u rest).length) 0 = 3 * (front + rest.length) := by
      intro front rest hf hr
      have hle := hr.length_le
      rw [List.length_drop] at hle
      have e : t.take (front + rest.length) = t.take front ++ rest := by
        rw [List.take_add, ← List.prefix_iff_eq_take.mp hr]
      have := hP (m := front + rest.length) (am := 0) (by omega) (.inl rfl)
      rw [e, enc_append, List.length_append, Nat.add_zero, Nat.add_zero] at this
      exact this
    rcases h3 with rfl | ⟨hlt, c, r, hd, hc⟩
    · rw [List.drop_zero, Nat.add_zero, Nat.add_zero]
      unfold led
      rw [show 3 * m % 3 = 0 by omega, show 3 * m / 3 = m by omega]
      simp only [Nat.lt_irrefl, gt_iff_lt, if_false, List.take_nil, List.length_nil, List.take_zero, List.drop_zero, true_and]
      have hiff := enc_pre C.toCodeZ hpa (hsub m)
      rw [← pre_iff] at hiff
      by_cases e0 : p = []
      · subst e0
        rw [if_pos rfl, if_pos (by simp [enc])]
        have := whole m [] h2 List.nil_prefix
        simp only [enc, List.flatMap_nil, List.length_nil, Nat.add_zero] at this ⊢
        rw [this]
      · rw [if_neg e0]
        by_cases e1 : p <+: t.drop m
        · rw [if_pos (List.prefix_iff_eq_take.mp e1).symm, if_pos (hiff.mpr e1), whole m p h2 e1]
        · rw [if_neg (fun q => e1 (List.prefix_iff_eq_take.mpr q.symm)), if_neg (fun q => e1 (hiff.mp q))]
    · by_cases ha0 : am = 0
      · subst ha0
        rw [List.drop_zero, Nat.add_zero, Nat.add_zero]
        unfold led
        rw [show 3 * m % 3 = 0 by omega, show 3 * m / 3 = m by omega]
        simp only [Nat.lt_irrefl, gt_iff_lt, if_false, List.take_nil, List.length_nil, List.take_zero, List.drop_zero, true_and]
        have hiff := enc_pre C.toCodeZ hpa (hsub m)
        rw [← pre_iff] at hiff
        by_cases e0 : p = []
        · subst e0
          rw [if_pos rfl, if_pos (by simp [enc])]
          have := whole m [] h2 List.nil_prefix
          simp only [enc, List.flatMap_nil, List.length_nil, Nat.add_zero] at this ⊢
          rw [this]
        · rw [if_neg e0]
          by_cases e1 : p <+: t.drop m
          · rw [if_pos (List.prefix_iff_eq_take.mp e1).symm, if_pos (hiff.mpr e1), whole m p h2 e1]
          · rw [if_neg (fun q => e1 (List.prefix_iff_eq_take.mpr q.symm)), if_neg (fun q => e1 (hiff.mp q))]
      · have hmlt : m < t.length := by
          rcases Nat.lt_or_ge m t.length with q | q
          · exact q
          · rw [List.drop_eq_nil_of_le q] at hd; cases hd
        have hget : t.getD m 0 = c := by
          rw [List.getD_eq_getElem?_getD, ← List.head?_drop, hd]; rfl
        have hcA : c ∈ Al := ht c (by have : c ∈ t.drop m := by rw [hd]; exact List.mem_cons_self ..
                                      exact List.mem_of_mem_drop this)
        have hr : r = t.drop (m + 1) := by rw [← List.drop_drop, hd]; rfl
        rw [hd, drop_torn hc hlt, if_neg ha0, List.nil_append]
        unfold led
        rw [show (3 * m + am) % 3 = am by omega, show (3 * m + am) / 3 = m by omega, hget]
        simp only [show am > 0 by omega, if_true]
        obtain ⟨i1, i2, i3⟩ := enc_torn C hcA hc (tl := (fig c).drop (am - 1)) (p := p) (s := r) (fun h hh => List.mem_of_mem_drop hh) hpa (by rw [hr]; exact hsub _)
        rw [← pre_iff] at i1
        have htl : ((fig c).drop (am - 1)).length = 3 - am := by
          obtain ⟨a, b, h1⟩ := fig_two c; rw [h1, List.length_drop]; simp; omega
        generalize (fig c).drop (am - 1) = tl at *
        have hblk : (enc esc u (t.take (m + 1))).length = (enc esc u (t.take m)).length + 3 := by
          have e : t.take (m + 1) = t.take m ++ [c] := by
            rw [List.take_add, hd]; rfl
          rw [e, enc_append, List.length_append]
          congr 1
          obtain ⟨a, b, h1⟩ := fig_two c
          show (cw esc u c ++ []).length = 3
          rw [cw_in hc, h1]; rfl
        by_cases e1 : p = tl.take p.length
        · rw [if_pos e1, if_pos (i1.mpr (.inl e1)), i2 e1]
          have hpl : p.length ≤ 3 - am := by
            have := congrArg List.length e1
            rw [List.length_take, htl] at this; omega
          congr 1
          by_cases e3 : am + p.length = 3
          · have := hP (m := m + 1) (am := 0) (by omega) (.inl rfl)
            rw [hblk] at this
            rw [show (enc esc u (t.take m)).length + am + p.length = (enc esc u (t.take m)).length + 3 + 0 by omega, this]; omega
          · have := hP (m := m) (am := am + p.length) h2 (.inr ⟨by omega, c, r, hd, hc⟩)
            rw [Nat.add_assoc, Nat.add_assoc, this]
        · rw [if_neg e1]
          by_cases e2 : p.take tl.length = tl ∧ p.drop tl.length <+: r
          · have e3 : (t.drop (m + 1)).take (p.drop tl.length).length = p.drop tl.length := by rw [← hr]; exact (List.prefix_iff_eq_take.mp e2.2).symm
            rw [if_pos ⟨e2.1, e3⟩, if_pos (i1.mpr (.inr e2)), i3 e2.1]
            congr 1
            have := whole (m + 1) (p.drop tl.length) (by omega) (hr ▸ e2.2)
            rw [hblk] at this
            rw [← this]
            congr 1; omega
          · rw [if_neg (fun q => e2 ⟨q.1, by rw [hr]; exact List.prefix_iff_eq_take.mpr q.2.symm⟩), if_neg (fun q => by
              rcases i1.mp q with q | q
              · exact e1 q
              · exact e2 q)]
  · intro p _ j hj hpre
    rw [hmem] at hj ⊢
    have := hpre.length_le
    rw [List.length_drop] at this; omega
  · intro p _ j hj _ _
    exact (hmem j).mpr hj
  · exact (hmem 0).mpr (Nat.zero_le _)
  · exact (hmem k).mpr hk

/-! a code that escapes all: a place is a whole sign -/
theorem all_len : ∀ {t : List Nat}, (∀ c ∈ t, c ∈ esc) → (enc esc u t).length = 3 * t.length
  | [], _ => rfl
  | c :: r, h => by
    have ih := all_len (t := r) fun x hx => h x (List.mem_cons_of_mem _ hx)
    rw [enc_cons, List.length_append, ih, cw_in (h c (List.mem_cons_self ..))]
    obtain ⟨a, b, h1⟩ := fig_two c
    rw [h1]; simp; omega
theorem all_drop {t : List Nat} (h : ∀ c ∈ t, c ∈ esc) {i : Nat} (hi : i ≤ t.length) : (enc esc u t).drop (3 * i) = enc esc u (t.drop i) := by
  have := drop_view (esc := esc) (u := u) (t := t) (m := i) (am := 0) hi
  rw [all_len fun c hc => h c (List.mem_of_mem_take hc), List.length_take, Nat.min_eq_left hi, List.drop_zero] at this
  exact this
theorem plc_nil : ∀ (t : List Nat) (i : Nat), plcF [] i t = (List.range' i (t.length + 1)).map (3 * ·)
  | [], i => rfl
  | c :: r, i => by
    show (if c ∈ ([] : List Nat) then _ else [3 * i]) ++ plcF [] (i + 1) r = _
    rw [if_neg (by simp), plc_nil r (i + 1), List.length_cons, List.range'_succ]
    rfl
theorem askedAll (C : CodeZ Al esc u) (hall : ∀ c ∈ Al, c ∈ esc) {t p0 : List Nat} {ps : List (List Nat)} (ht : ∀ c ∈ t, c ∈ Al) (hp : ∀ p ∈ p0 :: ps, ∀ c ∈ p, c ∈ Al) {k : Nat} (hk : k ≤ t.length) :
    (if ps = [] then enc esc u p0 == (enc esc u t).take (3 * k) else greedy ((p0 :: ps).map (enc esc u)) ((enc esc u t).take (3 * k))) = decide (3 * k ∈ ends (p0 :: ps) t []) := by
  have hte : ∀ c ∈ t, c ∈ esc := fun c hc => hall c (ht c hc)
  have hpe : ∀ p ∈ p0 :: ps, ∀ c ∈ p, c ∈ esc := fun p hm c hc => hall c (hp p hm c hc)
  have hlen := all_len (u := u) hte
  have hmem : ∀ j, j ∈ (List.range' 0 (t.length + 1)).map (3 * ·) ↔ ∃ i, i ≤ t.length ∧ j = 3 * i := fun j => by
    rw [List.mem_map]
    constructor
    · rintro ⟨i, h1, h2⟩; rw [List.mem_range'_1] at h1; exact ⟨i, by omega, h2.symm⟩
    · rintro ⟨i, h1, h2⟩; exact ⟨i, List.mem_range'_1.mpr ⟨by omega, by omega⟩, h2.symm⟩
  refine asked (As := (List.range' 0 (t.length + 1)).map (3 * ·)) (G := enc esc u t) (t := t) (P := fun j => j) (en := enc esc u) (fun _ _ _ _ h => h) p0 ps (places := plcF [] 0 t) ?_ rfl ?_ ?_ ?_ (by omega) ?_ ?_
  · rw [plc_nil, List.map_id']
  · intro p hpm j hj
    obtain ⟨i, hi, rfl⟩ := (hmem j).mp hj
    rw [all_drop hte hi, all_len (hpe p hpm)]
    unfold led
    rw [show 3 * i % 3 = 0 by omega, show 3 * i / 3 = i by omega]
    simp only [Nat.lt_irrefl, gt_iff_lt, if_false, List.take_nil, List.length_nil, List.take_zero, List.drop_zero, true_and]
    have hiff := enc_pre C (hp p hpm) (fun c hc => ht c (List.mem_of_mem_drop hc) : ∀ c ∈ t.drop i, c ∈ Al)
    rw [← pre_iff] at hiff
    by_cases e0 : p = []
    · subst e0
      rw [if_pos rfl, if_pos (by simp [enc])]
      simp
    · rw [if_neg e0]
      by_cases e1 : p <+: t.drop i
      · rw [if_pos (List.prefix_iff_eq_take.mp e1).symm, if_pos (hiff.mpr e1)]
        congr 1; omega
      · rw [if_neg (fun q => e1 (List.prefix_iff_eq_take.mpr q.symm)), if_neg (fun q => e1 (hiff.mp q))]
  · intro p hpm j hj hpre
    obtain ⟨i, hi, rfl⟩ := (hmem j).mp hj
    have := hpre.length_le
    rw [List.length_drop, hlen, all_len (hpe p hpm)] at this
    rw [all_len (hpe p hpm)]
    exact (hmem _).mpr ⟨i + p.length, by omega, by omega⟩
  · intro p hpm j hj hne hpre
    obtain ⟨m, am, h1, h2, h3⟩ := viewAt (u := u) (esc := esc) t j hj
    have hm : (enc esc u (t.take m)).length = 3 * m := by
      rw [all_len fun c hc => hte c (List.mem_of_mem_take hc), List.length_take, Nat.min_eq_left h2]
    rw [hm] at h1
    by_cases ha : am = 0
    · exact (hmem j).mpr ⟨m, h2, by omega⟩
    · rcases h3 with h3 | ⟨hlt, c, r, hd, hc⟩
      · exact absurd h3 ha
      · exfalso
        have hcA : c ∈ Al := ht c (by have : c ∈ t.drop m := by rw [hd]; exact List.mem_cons_self ..
                                      exact List.mem_of_mem_drop this)
        rw [h1, ← hm, drop_view h2, hd, drop_torn hc hlt, if_neg ha, List.nil_append] at hpre
        obtain ⟨a, b, hab⟩ := fig_two c
        have hh := C.h61 c hcA hc
        cases p with
        | nil => exact hne rfl
        | cons q p =>
          rw [enc_cons, cw_in (hpe _ hpm q (List.mem_cons_self ..)), List.cons_append] at hpre
          rw [hab] at hh hpre
          have hx : ∃ x y, (([a, b].drop (am - 1)) ++ enc esc u r) = x :: y ∧ x ∈ [a, b] := by
            match am, ha, hlt with
            | 1, _, _ => exact ⟨a, _, rfl, by simp⟩
            | 2, _, _ => exact ⟨b, _, rfl, by simp⟩
          obtain ⟨x, y, hxy, hxm⟩ := hx
          rw [hxy, List.cons_prefix_cons] at hpre
          exact hh x hxm hpre.1.symm
  · exact (hmem 0).mpr ⟨0, Nat.zero_le _, rfl⟩
  · exact (hmem _).mpr ⟨k, hk, rfl⟩
end
end Mine
end
section
set_option linter.unusedVariables false
namespace Mine
open PySem PyProof.Rows Builtin Builtin.Str

/-! texts are lists -/
theorem S_len (x : List Nat) : (S x).length = x.length := by simp [PySem.Str.length]
theorem sub_iff (x y : List Nat) (i : Nat) : subAt (S x) (S y) i = true ↔ y <+: x.drop i := by
  rw [StrLaws.subAt_eq, S_len, beq_iff_eq]
  show (x.drop i).take y.length = y ↔ _
  rw [List.prefix_iff_eq_take]
  exact eq_comm
theorem pre_len {y x : List Nat} {i : Nat} (h : y <+: x.drop i) (hi : i ≤ x.length) : i + y.length ≤ x.length := by
  have := h.length_le; rw [List.length_drop] at this; omega
theorem starts_S (x y : List Nat) : Txt.startswith (S x) (S y) = y.isPrefixOf x := by
  unfold Txt.startswith
  rw [Bool.eq_iff_iff, Bool.and_eq_true, decide_eq_true_eq, sub_iff, S_len, S_len, List.drop_zero, pre_iff]
  exact ⟨fun h => h.2, fun h => ⟨by have := h.length_le; omega, h⟩⟩
theorem ends_S (x y : List Nat) : Txt.endswith (S x) (S y) = y.isSuffixOf x := by
  unfold Txt.endswith
  rw [Bool.eq_iff_iff, Bool.and_eq_true, decide_eq_true_eq, sub_iff, S_len, S_len, List.isSuffixOf_iff_suffix]
  have := suf_take (w := y) (G := x) (k := x.length) (Nat.le_refl _)
  rw [List.take_length] at this
  rw [this]
  constructor
  · intro h; exact ⟨by omega, h.2⟩
  · intro h; exact ⟨by omega, h.2⟩
theorem range'_pre {lo n a : Nat} {pre post : List Nat} (h : List.range' lo n = pre ++ a :: post) : ∀ k, lo ≤ k → k < a → k ∈ pre := by
  intro k hk1 hk
  have hL : n = pre.length + (post.length + 1) := by
    have := congrArg List.length h
    simpa using this
  have hlen : lo + pre.length = a := by
    have h1 : (List.range' lo n)[pre.length]? = some a := by rw [h]; simp
    rw [List.getElem?_range' (by omega)] at h1
    simpa using h1
  have h2 : (List.range' lo n)[k - lo]? = pre[k - lo]? := by rw [h, List.getElem?_append_left (by omega)]
  rw [List.getElem?_range' (by omega)] at h2
  have h3 : pre[k - lo]? = some k := by rw [← h2]; simp; omega
  exact List.mem_of_getElem? h3
theorem find_S (x y : List Nat) (lo hi : Nat) : (match occurrences (S x) (S y) lo hi 1 with | k :: _ => (k : Int) | [] => -1) = (match findIn x y lo hi with | some j => (j : Int) | none => -1) := by
  rw [StrLaws.occ_eq]
  have hAt : ∀ i, StrLaws.At (S x) (S y) hi i ↔ i + y.length ≤ hi ∧ y <+: x.drop i := fun i => by
    unfold StrLaws.At; rw [sub_iff, S_len]
  have hmem : ∀ i, i ∈ List.range' lo (hi + 1 - lo) ↔ lo ≤ i ∧ i < lo + (hi + 1 - lo) := fun i => List.mem_range'_1
  rcases StrLaws.occ_first (S x) (S y) hi 1 (Nat.le_refl _) (List.range' lo (hi + 1 - lo)) lo (fun i h => ((hmem i).mp h).1) with ⟨h0, hn⟩ | ⟨pre, a, post, e, h0, ha, hn⟩
  · rw [h0]
    cases hf : findIn x y lo hi with
    | none => rfl
    | some j =>
      obtain ⟨b1, b2, b3, _⟩ := findIn_some hf
      exact absurd ((hAt j).mpr ⟨b2, pre_iff.mp b3⟩) (hn j ((hmem j).mpr ⟨b1, by omega⟩))
  · have hL : ∃ r, (forIn (List.range' lo (hi + 1 - lo)) ((#[] : Array Nat), lo) (StrLaws.occBody (S x) (S y) hi 1)).run.fst.toList = a :: r := by
      generalize (forIn (List.range' lo (hi + 1 - lo)) ((#[] : Array Nat), lo) (StrLaws.occBody (S x) (S y) hi 1)).run.fst = arr at h0
      have h1 : arr.toList[0]? = some a := by simpa using h0
      cases hL : arr.toList with
      | nil => rw [hL] at h1; cases h1
      | cons b t => rw [hL] at h1; simp at h1; rw [h1]; exact ⟨t, rfl⟩
    obtain ⟨r, hr⟩ := hL
    rw [hr]
    have hin : a ∈ List.range' lo (hi + 1 - lo) := by rw [e]; simp
    have hin' := (hmem a).mp hin
    have ha' := (hAt a).mp ha
    cases hf : findIn x y lo hi with
    | none =>
      have := findIn_none hf a hin'.1 ha'.1
      rw [← Bool.not_eq_true, pre_iff] at this
      exact absurd ha'.2 this
    | some j =>
      obtain ⟨b1, b2, b3, b4⟩ := findIn_some hf
      have : j = a := by
        rcases Nat.lt_trichotomy j a with q | q | q
        · exact absurd ((hAt j).mpr ⟨b2, pre_iff.mp b3⟩) (hn j (range'_pre e j b1 q))
        · exact q
        · have := b4 a hin'.1 q
          rw [← Bool.not_eq_true, pre_iff] at this
          exact absurd ha'.2 this
      rw [this]

/-- parts is the leftmost cutting of x at y -/
inductive Tight (y : List Nat) : List Nat → List (List Nat) → Prop where
  | last {x : List Nat} : (∀ j, j ≤ x.length → ¬ y <+: x.drop j) → Tight y x [x]
  | cut {p r : List Nat} {ps : List (List Nat)} : (∀ j, j < p.length → ¬ y <+: (p ++ (y ++ r)).drop j) → Tight y r ps → Tight y (p ++ (y ++ r)) (p :: ps)
theorem Tight.ne {y x : List Nat} {ps : List (List Nat)} (h : Tight y x ps) : ps ≠ [] := by cases h <;> simp
theorem occ_skip (s sub : Str) (hi limit : Nat) : ∀ (m i n : Nat) (st : Array Nat × Nat), (∀ j, i ≤ j → j < i + m → st.snd ≤ j → ¬ StrLaws.At s sub hi j) →
    forIn (m := Id) (List.range' i (m + n)) st (StrLaws.occBody s sub hi limit) = forIn (m := Id) (List.range' (i + m) n) st (StrLaws.occBody s sub hi limit)
  | 0, i, n, st, _ => by simp
  | m + 1, i, n, st, h => by
    rw [show m + 1 + n = (m + n) + 1 by omega, List.range'_succ, List.forIn_cons]
    have hb : StrLaws.occBody s sub hi limit i st = pure (ForInStep.yield st) := by
      unfold StrLaws.occBody
      rw [if_neg]
      rintro ⟨⟨⟨_, h2⟩, h3⟩, h4⟩
      exact h i (Nat.le_refl _) (by omega) h2 ⟨h3, h4⟩
    rw [hb]
    show forIn (m := Id) (List.range' (i + 1) (m + n)) st _ = _
    rw [occ_skip s sub hi limit m (i + 1) n st fun j h1 h2 h3 => h j (by omega) (by omega) h3, show i + 1 + m = i + (m + 1) by omega]
theorem occ_tight {x y : List Nat} (hy : y ≠ []) : ∀ {x0 : List Nat} {parts : List (List Nat)}, Tight y x0 parts → ∀ (a i : Nat) (found : Array Nat), x.drop a = x0 → a ≤ x.length → i ≤ a → found.size ≤ i →
    ∃ cuts, (forIn (m := Id) (List.range' i (x.length + 1 - i)) (found, a) (StrLaws.occBody (S x) (S y) x.length (x.length + 1))).run.fst.toList = found.toList ++ cuts ∧ StrLaws.partsFrom (S x) y.length a cuts = parts.map S := by
  intro x0 parts h
  have hAt : ∀ i, StrLaws.At (S x) (S y) x.length i ↔ i + y.length ≤ x.length ∧ y <+: x.drop i := fun i => by
    unfold StrLaws.At; rw [sub_iff, S_len]
  induction h with
  | @last z hz =>
    intro a i found e ha hi hf
    refine ⟨[], ?_, ?_⟩
    · have := occ_skip (S x) (S y) x.length (x.length + 1) (x.length + 1 - i) i 0 (found, a) (fun j h1 h2 h3 hA => by
        have h3' : a ≤ j := h3
        have := ((hAt j).mp hA).2
        rw [show j = a + (j - a) by omega, ← List.drop_drop, e] at this
        exact hz (j - a) (by rw [← e, List.length_drop]; omega) this)
      rw [Nat.add_zero] at this
      rw [this]
      simp
    · show [strSub (S x) a (S x).length] = [S z]
      congr 1
      apply Str.ext'
      apply Array.toList_inj.mp
      rw [StrLaws.strSub_toList, S_len]
      show (x.drop a).take (x.length - a) = z
      rw [e, List.take_of_length_le]
      rw [← e, List.length_drop]
      exact Nat.le_refl _
  | @cut p r ps hp _ ih =>
    intro a i found e ha hi hf
    have hlen : x.length = a + (p.length + (y.length + r.length)) := by
      have := congrArg List.length e
      simp only [List.length_drop, List.length_append] at this
      omega
    have hypos : 0 < y.length := List.length_pos_iff.mpr hy
    have hskip := occ_skip (S x) (S y) x.length (x.length + 1) (a + p.length - i) i (x.length + 1 - (a + p.length)) (found, a) (fun j h1 h2 h3 hA => by
      have h3' : a ≤ j := h3
      have := ((hAt j).mp hA).2
      rw [show j = a + (j - a) by omega, ← List.drop_drop, e] at this
      exact hp (j - a) (by omega) this)
    rw [show a + p.length - i + (x.length + 1 - (a + p.length)) = x.length + 1 - i by omega, show i + (a + p.length - i) = a + p.length by omega] at hskip
    rw [hskip, show x.length + 1 - (a + p.length) = (x.length + 1 - (a + p.length + 1)) + 1 by omega, List.range'_succ, List.forIn_cons]
    have hat : StrLaws.At (S x) (S y) x.length (a + p.length) := by
      rw [hAt]
      refine ⟨by omega, ?_⟩
      rw [← List.drop_drop, e, List.drop_left]
      exact List.prefix_append _ _
    have hb : StrLaws.occBody (S x) (S y) x.length (x.length + 1) (a + p.length) (found, a) = pure (ForInStep.yield (found.push (a + p.length), a + p.length + y.length)) := by
      unfold StrLaws.occBody
      rw [if_pos ⟨⟨⟨by show found.size < x.length + 1; omega, by show a ≤ a + p.length; omega⟩, hat.1⟩, hat.2⟩, S_len]
    rw [hb]
    obtain ⟨cuts, h1, h2⟩ := ih (a + p.length + y.length) (a + p.length + 1) (found.push (a + p.length)) (by
      rw [show a + p.length + y.length = a + (p.length + y.length) by omega, ← List.drop_drop, e, ← List.drop_drop, List.drop_left, List.drop_left]) (by omega) (by omega) (by rw [Array.size_push]; omega)
    refine ⟨(a + p.length) :: cuts, ?_, ?_⟩
    · show (forIn (m := Id) (List.range' (a + p.length + 1) (x.length + 1 - (a + p.length + 1))) (found.push (a + p.length), a + p.length + y.length) _).run.fst.toList = _
      rw [h1]; simp
    · show strSub (S x) a (a + p.length) :: StrLaws.partsFrom (S x) y.length (a + p.length + y.length) cuts = S p :: ps.map S
      rw [h2]
      congr 1
      apply Str.ext'
      apply Array.toList_inj.mp
      rw [StrLaws.strSub_toList]
      show (x.drop a).take (a + p.length - a) = p
      rw [e, Nat.add_sub_cancel_left, List.take_left]
theorem Tight.len {y x : List Nat} {p q : List Nat} {ps : List (List Nat)} (h : Tight y x (p :: q :: ps)) : y.length ≤ x.length ∧ ∀ c ∈ y, c ∈ x := by
  cases h with
  | cut _ _ => exact ⟨by simp only [List.length_append]; omega, fun c hc => by simp [hc]⟩
theorem split_tight {x y : List Nat} {parts : List (List Nat)} (hy : y ≠ []) (hk : PySem.Builtin.Str.strKind (S y) = 1) (h : Tight y x parts) : Txt.split (S x) (S y) = parts.map S := by
  have hone : ∀ p, parts = [p] → p = x := fun p e => by
    subst e
    cases h with
    | last _ => rfl
    | cut _ h' => exact absurd rfl h'.ne
  unfold Txt.split
  split
  · rename_i hc
    have hk2 : 1 ≤ PySem.Builtin.Str.strKind (S x) := by unfold PySem.Builtin.Str.strKind; split <;> (try split) <;> omega
    rw [Bool.or_eq_true, decide_eq_true_eq, decide_eq_true_eq, S_len, S_len, hk] at hc
    cases hp : parts with
    | nil => exact absurd hp h.ne
    | cons p ps =>
      cases ps with
      | nil => rw [hone p hp]; rfl
      | cons q ps => rw [hp] at h; have := h.len.1; omega
  · have e0 : occurrences (S x) (S y) 0 (S x).length ((S x).length + 1) = (forIn (m := Id) (List.range' 0 (x.length + 1 - 0)) ((#[] : Array Nat), 0) (StrLaws.occBody (S x) (S y) x.length (x.length + 1))).run.fst.toList := by
      rw [StrLaws.occ_eq, S_len]
    obtain ⟨cuts, h1, h2⟩ := occ_tight (x := x) hy h 0 0 #[] (by simp) (Nat.zero_le _) (Nat.le_refl _) (by simp)
    rw [h1] at e0
    rw [e0, List.nil_append, S_len]
    cases cuts with
    | nil =>
      rw [if_pos (by rfl)]
      rw [← h2]
      show [S x] = [strSub (S x) 0 (S x).length]
      rw [StrLaws.sub_whole]
    | cons i r =>
      rw [if_neg (by simp), StrLaws.partsBetween_eq]
      exact h2
theorem contains_tight {x y : List Nat} {parts : List (List Nat)} (h : Tight y x parts) : Txt.contains (S x) (S y) = decide (2 ≤ parts.length) := by
  have hf := StrLaws.found_iff (S x) (S y)
  unfold Txt.contains
  rw [Bool.eq_iff_iff, hf, decide_eq_true_eq]
  constructor
  · rintro ⟨i, h1, h2⟩
    rw [sub_iff] at h2
    rw [S_len, S_len] at h1
    cases h with
    | last hz => exact absurd h2 (hz i (by omega))
    | cut _ h' =>
      have := List.length_pos_iff.mpr h'.ne
      simp only [List.length_cons]; omega
  · intro h2
    cases h with
    | last hz => simp at h2
    | @cut p r ps hp h' =>
      refine ⟨p.length, ?_, ?_⟩
      · rw [S_len, S_len]; simp only [List.length_append]; omega
      · rw [sub_iff, List.drop_left]; exact List.prefix_append _ _
def findI (x y : List Nat) (lo hi : Nat) : Int := match findIn x y lo hi with | some j => (j : Int) | none => -1
theorem Ca.findL {G : Gx} {k : Nat} {x y : List Nat} {i j : Nat} {K : D → Prop} (hj : j ≤ x.length) (h : K (.int (findI x y i j))) : Ca G k (.builtin "str.find") [.str x, .str y, .int i, .int j] K := by
  unfold findI at h
  rw [← find_S] at h
  exact Ca.find hj h
end Mine
end
section
open PySem PySem.W PyProof.Rows
set_option Elab.async false
set_option maxRecDepth 100000
set_option maxHeartbeats 4000000
set_option linter.unusedVariables false
namespace Mine
theorem mem_kinds {sc : Scope} {names : List Str} (h : names.all (fun n => sc.names.lookup n == some .local || sc.names.lookup n == some .cell) = true) {n : Str} (hn : n ∈ names) : sc.names.lookup n = some .local ∨ sc.names.lookup n = some .cell := by
  have := List.all_eq_true.mp h n hn
  simpa only [Bool.or_eq_true, beq_iff_eq] using this
theorem Ev.strL {G : Gx} {k : Nat} {sc : Scope} {ρ : Rho} {x : Str} {n : Nat} {pos : Pos} {l : List Nat} {K : D → Prop} (hx : x.cps.toList = l) (h : K (.str l)) : Ev G k sc ρ (.Constant (.str x) n pos) K := Ev.str (hx ▸ h)
theorem tab_get {f : Nat → List Nat} {c : Nat} (hc : c < 256) : ((tab f).map D.str)[(c : Int).toNat]? = some (.str (f c)) := by
  unfold tab
  rw [Int.toNat_natCast, List.getElem?_map, List.getElem?_map, List.getElem?_range hc]; rfl
theorem tab_len (f : Nat → List Nat) : ((tab f).map D.str).length = 256 := by unfold tab; simp
theorem hx_hexd (n : Nat) : hx n = hexd n := rfl
theorem k_quote {w : World} {k c : Nat} (hc : c < 256) {K : D → Prop} (h : K (.str (hexT c))) : Ca (Gr w) (k + 1) (.ref 44) [.str [c]] K := by
  refine Ca.def (o := fobj 16 m1 .none 43) (fd := fdat 16 m1 .none 43) (body := fbody 16) (names := [Str.ofString "c"]) (fun h x => at_fquote x) rfl (fun h x => cd_fquote x) rfl rfl rfl rfl (es := [.str [c]]) ?_ rfl ?_ ?_ ?_ ?_ ?_ ?_
  · intro s vs _ r
    obtain ⟨v0, rfl, r0⟩ := RepAll.inv1 r
    exact ⟨[v0], .cons r0 .nil, .of_eq (by kernel_rfl)⟩
  · decide +kernel
  · show (fscope 16).kind = _; kernel_rfl
  · show (fscope 16).isCoroutine = _; kernel_rfl
  · show (fscope 16).isGenerator = _; kernel_rfl
  · intro n hn
    have := mem_kinds (sc := fscope 16) (by kernel_rfl) hn; exact this
  · show Ex (Gr w) k (fscope 16) _ (fbody 16) _ _
    refine Ex.cons (E1.ret (Ev.item (Ev.glob Gl.qmap (by kernel_rfl) ?_)))
    refine Ev.callb Gl.ord (by kernel_rfl) (EvL.one (Ev.var (d := .str [c]) (by kernel_rfl) ?_))
    exact Ca.ord (It.list (by omega) (tab_get hc) (by rw [tab_len]; decide) h)
def hexS : List Nat := [48, 49, 50, 51, 52, 53, 54, 55, 56, 57, 65, 66, 67, 68, 69, 70]
theorem hexS_get {n : Nat} (h : n < 16) : hexS[((n : Nat) : Int).toNat]? = some (hexd n) := by
  rw [Int.toNat_natCast]; revert n; decide
theorem fdivN (a b : Nat) : ((a : Int)).fdiv (b : Int) = ((a / b : Nat) : Int) := by
  rw [Int.fdiv_eq_ediv_of_nonneg _ (Int.natCast_nonneg b)]; rfl
theorem fmodN (a b : Nat) : ((a : Int)).fmod (b : Int) = ((a % b : Nat) : Int) := by
  rw [Int.fmod_eq_emod_of_nonneg _ (Int.natCast_nonneg b)]; rfl
theorem k_figures {w : World} {k c : Nat} (hc : c < 256) {K : D → Prop} (h : K (.str (fig c))) : Ca (Gr w) (k + 1) (.ref 72) [.str [c]] K := by
  refine Ca.def (o := fobj 23 m2 .none 71) (fd := fdat 23 m2 .none 71) (body := fbody 23) (names := [Str.ofString "sign"]) (fun h x => at_flawfigures x) rfl (fun h x => cd_flawfigures x) rfl rfl rfl rfl (es := [.str [c]]) ?_ rfl ?_ ?_ ?_ ?_ ?_ ?_
  · intro s vs _ r
    obtain ⟨v0, rfl, r0⟩ := RepAll.inv1 r
    exact ⟨[v0], .cons r0 .nil, .of_eq (by kernel_rfl)⟩
  · decide +kernel
  · show (fscope 23).kind = _; kernel_rfl
  · show (fscope 23).isCoroutine = _; kernel_rfl
  · show (fscope 23).isGenerator = _; kernel_rfl
  · intro n hn
    have := mem_kinds (sc := fscope 23) (by kernel_rfl) hn; exact this
  · show Ex (Gr w) k (fscope 23) _ (fbody 23) _ _
    refine Ex.cons (E1.iteS (Tr.cmp (Ev.var (d := .str [c]) (by kernel_rfl) (Ev.strL (l := [126]) (by kernel_rfl) (Co.eq_str ?_)))))
    unfold fig at h
    by_cases e : c = 126
    · subst e
      rw [if_pos rfl] at h
      show Ex _ _ _ _ _ _ _
      exact Ex.cons (E1.ret (Ev.strL (by kernel_rfl) h))
    · rw [if_neg e] at h
      rw [show ([c] == [126]) = false by simp [e]]
      show Ex _ _ _ _ _ _ _
      refine Ex.nil (Ex.cons (E1.ret (Ev.bin (Ev.item (Ev.strL (l := hexS) (by kernel_rfl) ?_)))))
      refine Ev.bin (Ev.callb Gl.ord (by kernel_rfl) (EvL.one (Ev.var (d := .str [c]) (by kernel_rfl) ?_)))
      refine Ca.ord (Ev.int (Bo.fdiv_int (by decide) (PyProof.noPylong_small (by decide)) ?_))
      rw [show ((c : Int)).fdiv 16 = ((c / 16 : Nat) : Int) from fdivN c 16]
      refine It.str (c := hexd (c / 16)) (by omega) (hexS_get (by omega)) (by decide) ?_
      refine Ev.item (Ev.strL (l := hexS) (by kernel_rfl) ?_)
      refine Ev.bin (Ev.callb Gl.ord (by kernel_rfl) (EvL.one (Ev.var (d := .str [c]) (by kernel_rfl) ?_)))
      refine Ca.ord (Ev.int (Bo.mod_int (by decide) ?_))
      rw [show ((c : Int)).fmod 16 = ((c % 16 : Nat) : Int) from fmodN c 16]
      refine It.str (c := hexd (c % 16)) (by omega) (hexS_get (by omega)) (by decide) ?_
      exact Bo.add_str (by simp [sizeLine]) h
end Mine
end
section
open PySem PySem.W PyProof.Rows
set_option Elab.async false
set_option maxRecDepth 100000
set_option maxHeartbeats 4000000
set_option linter.unusedVariables false
namespace Mine
theorem contains_one (esc : List Nat) (c : Nat) : Txt.contains (S esc) (S [c]) = decide (c ∈ esc) := by
  have := StrLaws.found_one (S esc) c
  simpa [Txt.contains] using this
theorem join_S (x : List Nat) : ∀ ts : List (List Nat), Str.join (S x) (ts.map S) = S (x.intercalate ts)
  | [] => rfl
  | [a] => by simp [Str.join]
  | a :: b :: r => by
    have ih := join_S x (b :: r)
    show S a ++ S x ++ Str.join (S x) (S b :: r.map S) = _
    rw [show Str.join (S x) (S b :: r.map S) = S (x.intercalate (b :: r)) from ih, S_append, S_append, List.intercalate_cons_cons]
theorem jn_S (x : List Nat) (ts : List (List Nat)) : Txt.join (S x) (ts.map S) = S (x.intercalate ts) := by
  rw [show Txt.join (S x) (ts.map S) = Str.join (S x) (ts.map S) from StrLaws.glued_eq_join _ _]; exact join_S x ts
theorem jn_cps (x : List Nat) (ts : List (List Nat)) : (Txt.join (S x) (ts.map S)).cps.toList = x.intercalate ts := by rw [jn_S]
theorem jn_nil (ts : List (List Nat)) : ([] : List Nat).intercalate ts = ts.flatten := by
  induction ts with
  | nil => rfl
  | cons a r ih => cases r with
    | nil => simp
    | cons b r => rw [List.intercalate_cons_cons, ih]; simp
theorem CompP.mapD {G : Gx} {k : Nat} {sc : Scope} {ρ : Rho} {x : Str} {elt : Expr} {f : D → D} : ∀ {ds acc : List D} {K : List D → Prop}, (∀ d ∈ ds, ∀ K' : D → Prop, K' (f d) → Ev G k sc (set ρ x d) elt K') → (∀ d ∈ ds, NoL (f d)) →
    K (acc ++ ds.map f) → CompP G k sc ρ x [] elt ds acc K
  | [], acc, K, _, _, h => by simpa [CompP] using h
  | d :: ds, acc, K, h1, h2, h => by
    refine h1 d (List.mem_cons_self ..) _ ⟨h2 d (List.mem_cons_self ..), ?_⟩
    exact CompP.mapD (fun e he => h1 e (List.mem_cons_of_mem _ he)) (fun e he => h2 e (List.mem_cons_of_mem _ he)) (by simpa using h)
theorem joinOk_of {x : List Nat} {ts : List (List Nat)} (hx : x.length ≤ 16) (h : (ts.map List.length).sum + ts.length ≤ 1048576) : JoinOk (S x) (ts.map S) = true := by
  have e : ∀ (l : List (List Nat)) (n : Nat), (l.map S).foldl (fun a b => a + b.length + (S x).length) n = n + (l.map List.length).sum + l.length * x.length := by
    intro l
    induction l with
    | nil => intro n; simp
    | cons a l ih =>
      intro n
      rw [List.map_cons, List.foldl_cons, ih, List.map_cons, List.sum_cons, List.length_cons, Nat.add_mul]
      simp [Str.length]; omega
  unfold JoinOk
  rw [List.foldl_toArray, e]
  have : ts.length * x.length ≤ ts.length * 16 := Nat.mul_le_mul_left _ hx
  show (!decide (_ > sizeLine)) = true
  rw [Bool.not_eq_true', decide_eq_false_iff_not]
  simp only [sizeLine]
  omega
theorem fig_len (c : Nat) : (fig c).length = 2 := by unfold fig; split <;> rfl
theorem cw_len (esc : List Nat) (u : Nat → Nat) (c : Nat) : (cw esc u c).length ≤ 3 := by
  unfold cw; split
  · rw [List.length_cons, fig_len]; omega
  · simp
theorem sl_join : Slot "str" (Str.ofString "join") "str.join" := F.slot_str_join
theorem k_written {w : World} {k : Nat} {t esc : List Nat} (ht : ∀ c ∈ t, c < 256) (hl : t.length ≤ 1000) {K : D → Prop} (h : K (.str (enc esc id t))) : Ca (Gr w) (k + 2) (.ref 77) [.str t, .str esc] K := by
  refine Ca.def (o := fobj 24 m2 .none 76) (fd := fdat 24 m2 .none 76) (body := fbody 24) (names := [Str.ofString "text", Str.ofString "escaped"]) (fun h x => at_flawwritten x) rfl (fun h x => cd_flawwritten x) rfl rfl rfl rfl (es := [.str t, .str esc]) ?_ rfl ?_ ?_ ?_ ?_ ?_ ?_
  · intro s vs _ r
    obtain ⟨v0, v1, rfl, r0, r1⟩ := RepAll.inv2 r
    exact ⟨[v0, v1], .cons r0 (.cons r1 .nil), .of_eq (by kernel_rfl)⟩
  · decide +kernel
  · show (fscope 24).kind = _; kernel_rfl
  · show (fscope 24).isCoroutine = _; kernel_rfl
  · show (fscope 24).isGenerator = _; kernel_rfl
  · intro n hn
    have := mem_kinds (sc := fscope 24) (by kernel_rfl) hn; exact this
  · show Ex (Gr w) (k + 1) (fscope 24) _ (fbody 24) _ _
    conv in (fbody 24) => whnf
    with_reducible refine Ex.cons ?_
    with_reducible refine E1.ret ?_
    with_reducible refine Ev.meths sl_join F.type_str_join ?_
    with_reducible refine Ev.strL (l := []) (by kernel_rfl) ⟨_, rfl, ?_⟩
    with_reducible refine EvL.one ?_
    with_reducible refine Ev.comp (by kernel_rfl) (by decide +kernel) (by kernel_rfl) (by decide +kernel) (by kernel_rfl) ?_
    with_reducible refine Ev.var (d := .str t) (by kernel_rfl) ⟨t.map fun c => .str [c], rfl, by rw [List.length_map]; simp [sizeLine]; omega, ?_⟩
    refine CompP.mapD (f := fun d => match d with | .str [c] => .str (cw esc id c) | d => d) ?_ ?_ ?_
    · intro d hd K' hK
      obtain ⟨c, hc, rfl⟩ := List.mem_map.mp hd
      with_reducible refine Ev.ite ?_
      with_reducible refine Tr.cmp ?_
      with_reducible refine Ev.var (d := .str [c]) (by kernel_rfl) ?_
      with_reducible refine Ev.var (d := .str esc) (by kernel_rfl) ?_
      with_reducible refine Co.in_str ?_
      rw [contains_one]
      have hc' := ht c hc
      have e0 : ∀ x : List Nat, x = cw esc id c → K' (.str x) := fun x e => by rw [e]; exact hK
      unfold cw at e0
      by_cases e : c ∈ esc
      · rw [if_pos e] at e0
        rw [decide_eq_true e]
        refine Ev.bin (Ev.strL (l := [61]) (by kernel_rfl) (Ev.calld Gl.flawfigures (by kernel_rfl) (fun h x => ⟨_, _, at_flawfigures x, rfl⟩) (EvL.one (Ev.var (d := .str [c]) (by kernel_rfl) (k_figures hc' ?_)))))
        exact Bo.add_str (by have := fig_len c; simp [sizeLine]; omega) (e0 _ rfl)
      · rw [if_neg e] at e0
        rw [decide_eq_false e]
        exact Ev.var (d := .str [c]) (by kernel_rfl) (e0 _ rfl)
    · intro d hd
      obtain ⟨c, hc, rfl⟩ := List.mem_map.mp hd
      exact .str
    · have e1 : (t.map fun c => D.str [c]).map (fun d => match d with | .str [c] => .str (cw esc id c) | d => d) = (t.map (cw esc id)).map D.str := by
        rw [List.map_map, List.map_map]; rfl
      rw [List.nil_append, e1]
      refine Ca.join (joinOk_of (by simp) ?_) ?_
      · have : ∀ l : List Nat, ((l.map (cw esc id)).map List.length).sum ≤ 3 * l.length := by
          intro l
          induction l with
          | nil => simp
          | cons c l ih =>
            have h3 : (cw esc id c).length ≤ 3 := cw_len esc id c
            simp only [List.map_cons, List.sum_cons, List.length_cons]; omega
        have := this t
        rw [List.length_map]; omega
      · rw [jn_cps, jn_nil]
        exact h
end Mine
end
section
open PySem PySem.W PyProof.Rows
set_option Elab.async false
set_option maxRecDepth 100000
set_option maxHeartbeats 4000000
set_option linter.unusedVariables false
namespace Mine
def shown (t : List Nat) : List Nat := if cut (some (-1)) none t == [32] then cut none (some (-1)) t ++ [126] else t
theorem k_shown {w : World} {k : Nat} {t : List Nat} (hl : t.length ≤ 1000) {K : D → Prop} (h : K (.str (shown t))) : Ca (Gr w) (k + 1) (.ref 103) [.str t] K := by
  refine Ca.def (o := fobj 28 m2 .none 102) (fd := fdat 28 m2 .none 102) (body := fbody 28) (names := [Str.ofString "text"]) (fun h x => at_flawshown x) rfl (fun h x => cd_flawshown x) rfl rfl rfl rfl (es := [.str t]) ?_ rfl ?_ ?_ ?_ ?_ ?_ ?_
  · intro s vs _ r
    obtain ⟨v0, rfl, r0⟩ := RepAll.inv1 r
    exact ⟨[v0], .cons r0 .nil, .of_eq (by kernel_rfl)⟩
  · decide +kernel
  · show (fscope 28).kind = _; kernel_rfl
  · show (fscope 28).isCoroutine = _; kernel_rfl
  · show (fscope 28).isGenerator = _; kernel_rfl
  · intro n hn
    have := mem_kinds (sc := fscope 28) (by kernel_rfl) hn; exact this
  · show Ex (Gr w) k (fscope 28) _ (fbody 28) _ _
    conv in (fbody 28) => whnf
    with_reducible refine Ex.cons ?_
    with_reducible refine E1.ret ?_
    with_reducible refine Ev.ite ?_
    with_reducible refine Tr.cmp ?_
    with_reducible refine Ev.slice ?_
    with_reducible refine Ev.var (d := .str t) (by kernel_rfl) ?_
    with_reducible refine EvO.some ?_
    with_reducible refine Ev.neg ⟨_, rfl, ?_⟩
    with_reducible refine EvO.none ?_
    with_reducible refine Sl.str (by simp [sizeLine]; omega) ?_
    with_reducible refine Ev.strL (l := [32]) (by kernel_rfl) ?_
    with_reducible refine Co.eq_str ?_
    unfold shown at h
    by_cases e : (cut (some (-1)) none t == [32]) = true
    · rw [if_pos e] at h
      rw [if_pos e]
      with_reducible refine Ev.bin ?_
      with_reducible refine Ev.slice ?_
      with_reducible refine Ev.var (d := .str t) (by kernel_rfl) ?_
      with_reducible refine EvO.none ?_
      with_reducible refine EvO.some ?_
      with_reducible refine Ev.neg ⟨_, rfl, ?_⟩
      with_reducible refine Sl.str (by simp [sizeLine]; omega) ?_
      with_reducible refine Ev.strL (l := [126]) (by kernel_rfl) ?_
      exact Bo.add_str (by have := cut_length_le none (some (-1)) t; simp [sizeLine]; omega) h
    · rw [if_neg e] at h
      rw [if_neg e]
      with_reducible refine Ev.var (d := .str t) (by kernel_rfl) h
end Mine
end
section
open PySem PySem.W PyProof.Rows
set_option Elab.async false
set_option maxRecDepth 100000
set_option maxHeartbeats 4000000
set_option linter.unusedVariables false
namespace Mine
theorem low_nat (n a : Nat) : lowI n (some (a : Int)) = min a n := by unfold lowI; simp only; omega
theorem high_nat (n a : Nat) : highI n (some (a : Int)) = min a n := by unfold highI; simp only; omega
theorem drop_min {α : Type} (a : Nat) (l : List α) : l.drop (min a l.length) = l.drop a := by
  rcases Nat.le_total a l.length with h | h
  · rw [Nat.min_eq_left h]
  · rw [Nat.min_eq_right h, List.drop_length, List.drop_eq_nil_of_le h]
theorem cut_from {α : Type} (a : Nat) (l : List α) : cut (some (a : Int)) none l = l.drop a := by
  unfold cut
  rw [low_nat, drop_min, List.take_of_length_le]
  rw [List.length_drop]; show _ ≤ l.length - _; omega
theorem cut_to {α : Type} (a : Nat) (l : List α) : cut none (some (a : Int)) l = l.take a := by
  unfold cut
  rw [high_nat]
  show (l.drop 0).take (min a l.length - 0) = _
  rw [List.drop_zero, Nat.sub_zero, List.take_eq_take_iff]; omega
theorem cut_both {α : Type} (a b : Nat) (l : List α) : cut (some (a : Int)) (some (b : Int)) l = (l.drop a).take (b - a) := by
  unfold cut
  rw [low_nat, high_nat, drop_min, List.take_eq_take_iff, List.length_drop]; omega
def ledI (place : Nat) (piece text : List Nat) : Int := match led place piece text with | some e => (e : Int) | none => -1
theorem k_led {w : World} {k place : Nat} {piece text : List Nat} (hp : piece.length ≤ 1000) (ht : text.length ≤ 1000) (hpl : place ≤ 100000) (hf : place % 3 > 0 → place / 3 < text.length) (hc : ∀ c ∈ text, c < 256) {K : D → Prop} (h : K (.int (ledI place piece text))) : Ca (Gr w) (k + 2) (.ref 91) [.int place, .str piece, .str text] K := by
  refine Ca.def (o := fobj 26 m2 .none 90) (fd := fdat 26 m2 .none 90) (body := fbody 26) (names := [Str.ofString "place", Str.ofString "piece", Str.ofString "text"]) (fun h x => at_flawled x) rfl (fun h x => cd_flawled x) rfl rfl rfl rfl (es := [.int place, .str piece, .str text]) ?_ rfl ?_ ?_ ?_ ?_ ?_ ?_
  · intro s vs _ r
    obtain ⟨v0, v1, v2, rfl, r0, r1, r2⟩ := RepAll.inv3 r
    exact ⟨[v0, v1, v2], .cons r0 (.cons r1 (.cons r2 .nil)), .of_eq (by kernel_rfl)⟩
  · decide +kernel
  · show (fscope 26).kind = _; kernel_rfl
  · show (fscope 26).isCoroutine = _; kernel_rfl
  · show (fscope 26).isGenerator = _; kernel_rfl
  · intro n hn
    have := mem_kinds (sc := fscope 26) (by kernel_rfl) hn; exact this
  · show Ex (Gr w) (k + 1) (fscope 26) _ (fbody 26) _ _
    conv in (fbody 26) => whnf
    with_reducible refine Ex.cons ?_
    with_reducible refine E1.assign (.inl (by kernel_rfl)) ?_
    with_reducible refine Ev.bin ?_
    with_reducible refine Ev.var (d := .int place) (by kernel_rfl) ?_
    with_reducible refine Ev.int ?_
    with_reducible refine Bo.fdiv_int (by decide) (PyProof.noPylong_small (by decide)) ?_
    rw [show ((place : Int)).fdiv 3 = ((place / 3 : Nat) : Int) from fdivN place 3]
    with_reducible refine Ex.cons ?_
    with_reducible refine E1.assign (.inl (by kernel_rfl)) ?_
    with_reducible refine Ev.bin ?_
    with_reducible refine Ev.var (d := .int place) (by kernel_rfl) ?_
    with_reducible refine Ev.int ?_
    with_reducible refine Bo.mod_int (by decide) ?_
    rw [show ((place : Int)).fmod 3 = ((place % 3 : Nat) : Int) from fmodN place 3]
    with_reducible refine Ex.cons ?_
    with_reducible refine E1.assign (.inl (by kernel_rfl)) ?_
    generalize hfr : place / 3 = fr at *
    generalize ham : place % 3 = am at *
    have htl : ∃ tl, tl = (if am > 0 then (fig (text.getD fr 0)).drop (am - 1) else []) := ⟨_, rfl⟩
    obtain ⟨tl, htl⟩ := htl
    have htlen : tl.length ≤ 2 := by
      rw [htl]; split
      · rw [List.length_drop, fig_len]; omega
      · simp
    have hled : K (.int (match (if piece = tl.take piece.length then some (place + piece.length) else
        if piece.take tl.length = tl ∧ (text.drop (if am > 0 then fr + 1 else fr)).take (piece.drop tl.length).length = piece.drop tl.length then some (3 * ((if am > 0 then fr + 1 else fr) + (piece.drop tl.length).length)) else none : Option Nat) with | some e => (e : Int) | none => -1)) := by
      unfold ledI led at h
      rw [hfr, ham] at h
      rw [htl]; exact h
    clear h
    with_reducible refine Ev.mono (K := fun d => d = .str tl) ?_ ?_
    · with_reducible refine Ev.ite ?_
      with_reducible refine Tr.cmp ?_
      with_reducible refine Ev.var (d := .int am) (by kernel_rfl) ?_
      with_reducible refine Ev.int ?_
      with_reducible refine Co.gt_int ?_
      by_cases ha : am > 0
      · rw [if_pos (by simpa using ha)]
        rw [if_pos ha] at htl
        have hfl := hf ha
        have hget : text[((fr : Nat) : Int).toNat]? = some (text.getD fr 0) := by
          rw [Int.toNat_natCast, List.getElem?_eq_getElem hfl, List.getD_eq_getElem?_getD, List.getElem?_eq_getElem hfl]; rfl
        with_reducible refine Ev.slice ?_
        with_reducible refine Ev.calld g_lawfigures (by kernel_rfl) (fun h x => ⟨_, _, at_flawfigures x, rfl⟩) ?_
        with_reducible refine EvL.one ?_
        with_reducible refine Ev.item ?_
        with_reducible refine Ev.var (d := .str text) (by kernel_rfl) ?_
        with_reducible refine Ev.var (d := .int fr) (by kernel_rfl) ?_
        refine It.str (by omega) hget (by simp [sizeLine]; omega) ?_
        refine k_figures (hc _ (by rw [List.getD_eq_getElem?_getD, List.getElem?_eq_getElem hfl]; exact List.getElem_mem hfl)) ?_
        with_reducible refine EvO.some ?_
        with_reducible refine Ev.bin ?_
        with_reducible refine Ev.var (d := .int am) (by kernel_rfl) ?_
        with_reducible refine Ev.int ?_
        with_reducible refine Bo.sub_int ⟨_, rfl, ?_⟩
        with_reducible refine EvO.none ?_
        refine Sl.str (by rw [fig_len]; decide) ?_
        rw [show ((am : Int) - 1) = ((am - 1 : Nat) : Int) by omega, cut_from, htl]
      · rw [if_neg (by simpa using ha)]
        rw [if_neg ha] at htl
        exact Ev.strL (by kernel_rfl) (by rw [htl])
    · intro d e
      subst e
      with_reducible refine Ex.cons ?_
      with_reducible refine E1.iteS ?_
      with_reducible refine Tr.cmp ?_
      with_reducible refine Ev.var (d := .str piece) (by kernel_rfl) ?_
      with_reducible refine Ev.slice ?_
      with_reducible refine Ev.var (d := .str tl) (by kernel_rfl) ?_
      with_reducible refine EvO.none ?_
      with_reducible refine EvO.some ?_
      with_reducible refine Ev.callb g_len (by kernel_rfl) ?_
      with_reducible refine EvL.one ?_
      with_reducible refine Ev.var (d := .str piece) (by kernel_rfl) ?_
      refine Ca.len_str (by simp [sizeLine]; omega) ⟨_, rfl, ?_⟩
      refine Sl.str (by simp [sizeLine]; omega) ?_
      rw [cut_to]
      with_reducible refine Co.eq_str ?_
      by_cases e1 : piece = tl.take piece.length
      · rw [if_pos (by simpa using e1)]
        rw [if_pos e1] at hled
        with_reducible refine Ex.cons ?_
        with_reducible refine E1.ret ?_
        with_reducible refine Ev.bin ?_
        with_reducible refine Ev.var (d := .int place) (by kernel_rfl) ?_
        with_reducible refine Ev.callb g_len (by kernel_rfl) ?_
        with_reducible refine EvL.one ?_
        with_reducible refine Ev.var (d := .str piece) (by kernel_rfl) ?_
        refine Ca.len_str (by simp [sizeLine]; omega) (Bo.add_int ?_)
        simpa using hled
      · rw [if_neg (by simpa using e1)]
        rw [if_neg e1] at hled
        with_reducible refine Ex.nil ?_
        have hfr' : ∃ f', f' = (if am > 0 then fr + 1 else fr) := ⟨_, rfl⟩
        obtain ⟨f', hfr'⟩ := hfr'
        rw [← hfr'] at hled
        with_reducible refine Ex.cons ?_
        have main : ∀ (ρ' : Rho) (N : Rho → Prop), ρ' (Str.ofString "front") = some (.int f') → ρ' (Str.ofString "piece") = some (.str piece) → ρ' (Str.ofString "text") = some (.str text) → ρ' (Str.ofString "tail") = some (.str tl) →
            Ex (Gr w) (k + 1) (fscope 26) ρ' ((fbody 26).drop 5) N K := by
          intro ρ' N h1 h2 h3 h4
          conv in (List.drop 5 (fbody 26)) => whnf
          with_reducible refine Ex.cons ?_
          with_reducible refine E1.assign (.inl (by kernel_rfl)) ?_
          with_reducible refine Ev.slice ?_
          with_reducible refine Ev.var h2 ?_
          with_reducible refine EvO.some ?_
          with_reducible refine Ev.callb g_len (by kernel_rfl) ?_
          with_reducible refine EvL.one ?_
          with_reducible refine Ev.var h4 ?_
          refine Ca.len_str (by simp [sizeLine]; omega) ⟨_, rfl, ?_⟩
          with_reducible refine EvO.none ?_
          refine Sl.str (by simp [sizeLine]; omega) ?_
          rw [cut_from]
          generalize hrs : piece.drop tl.length = rs at *
          have hrl : rs.length ≤ 1000 := by rw [← hrs, List.length_drop]; omega
          have hs : ∀ y, y ≠ Str.ofString "rest" → set ρ' (Str.ofString "rest") (.str rs) y = ρ' y := fun y hy => if_neg hy
          have g1 := (hs _ (by decide +kernel)).trans h1
          have g2 := (hs _ (by decide +kernel)).trans h2
          have g3 := (hs _ (by decide +kernel)).trans h3
          have g4 := (hs _ (by decide +kernel)).trans h4
          have g5 : set ρ' (Str.ofString "rest") (.str rs) (Str.ofString "rest") = some (.str rs) := if_pos rfl
          generalize set ρ' (Str.ofString "rest") (.str rs) = ρ2 at *
          with_reducible refine Ex.cons ?_
          with_reducible refine E1.iteS ?_
          with_reducible refine Tr.and2 ?_
          with_reducible refine Tr.cmp ?_
          with_reducible refine Ev.slice ?_
          with_reducible refine Ev.var g2 ?_
          with_reducible refine EvO.none ?_
          with_reducible refine EvO.some ?_
          with_reducible refine Ev.callb g_len (by kernel_rfl) ?_
          with_reducible refine EvL.one ?_
          with_reducible refine Ev.var g4 ?_
          refine Ca.len_str (by simp [sizeLine]; omega) ⟨_, rfl, ?_⟩
          refine Sl.str (by simp [sizeLine]; omega) ?_
          rw [cut_to]
          with_reducible refine Ev.var g4 ?_
          with_reducible refine Co.eq_str ?_
          have last : ∀ (ρ3 : Rho) (N' : Rho → Prop), K (.int (-1)) → Ex (Gr w) (k + 1) (fscope 26) ρ3 ((fbody 26).drop 7) N' K := by
            intro ρ3 N' hK
            conv in (List.drop 7 (fbody 26)) => whnf
            with_reducible refine Ex.cons ?_
            with_reducible refine E1.ret ?_
            exact Ev.neg hK
          by_cases e2 : piece.take tl.length = tl
          · rw [if_pos (by simpa using e2)]
            with_reducible refine Tr.cmp ?_
            with_reducible refine Ev.slice ?_
            with_reducible refine Ev.var g3 ?_
            with_reducible refine EvO.some ?_
            with_reducible refine Ev.var g1 ⟨_, rfl, ?_⟩
            with_reducible refine EvO.some ?_
            with_reducible refine Ev.bin ?_
            with_reducible refine Ev.var g1 ?_
            with_reducible refine Ev.callb g_len (by kernel_rfl) ?_
            with_reducible refine EvL.one ?_
            with_reducible refine Ev.var g5 ?_
            refine Ca.len_str (by simp [sizeLine]; omega) (Bo.add_int ⟨_, rfl, ?_⟩)
            refine Sl.str (by simp [sizeLine]; omega) ?_
            rw [show ((f' : Int) + (rs.length : Int)) = ((f' + rs.length : Nat) : Int) by omega, cut_both, Nat.add_sub_cancel_left]
            with_reducible refine Ev.var g5 ?_
            with_reducible refine Co.eq_str ?_
            by_cases e3 : (text.drop f').take rs.length = rs
            · rw [if_pos (by simpa using e3)]
              rw [if_pos ⟨e2, e3⟩] at hled
              with_reducible refine Ex.cons ?_
              with_reducible refine E1.ret ?_
              with_reducible refine Ev.bin ?_
              with_reducible refine Ev.int ?_
              with_reducible refine Ev.bin ?_
              with_reducible refine Ev.var g1 ?_
              with_reducible refine Ev.callb g_len (by kernel_rfl) ?_
              with_reducible refine EvL.one ?_
              with_reducible refine Ev.var g5 ?_
              refine Ca.len_str (by simp [sizeLine]; omega) (Bo.add_int (Bo.mul_int ?_ ?_))
              · exact IntMulOk.of_left (by decide +kernel)
              · have e : (3 : Int) * ((f' : Int) + (rs.length : Int)) = ((3 * (f' + rs.length) : Nat) : Int) := by omega
                rw [e]; exact hled
            · rw [if_neg (by simpa using e3)]
              rw [if_neg (fun q => e3 q.2)] at hled
              exact Ex.nil (last _ _ hled)
          · rw [if_neg (by simpa using e2)]
            rw [if_neg (fun q => e2 q.1)] at hled
            exact Ex.nil (last _ _ hled)
        with_reducible refine E1.iteS ?_
        with_reducible refine Tr.cmp ?_
        with_reducible refine Ev.var (d := .int am) (by kernel_rfl) ?_
        with_reducible refine Ev.int ?_
        with_reducible refine Co.gt_int ?_
        by_cases ha : am > 0
        · rw [if_pos (by simpa using ha)]
          rw [if_pos ha] at hfr'
          with_reducible refine Ex.cons ?_
          with_reducible refine E1.aug (a := fr) (b := 1) (r := f') (by kernel_rfl) (by kernel_rfl) ?_ (.inl ⟨rfl, by omega⟩)
          with_reducible refine Ev.int ⟨rfl, ?_⟩
          with_reducible refine Ex.nil ?_
          exact main _ _ (by kernel_rfl) (by kernel_rfl) (by kernel_rfl) (by kernel_rfl)
        · rw [if_neg (by simpa using ha)]
          rw [if_neg ha] at hfr'
          subst hfr'
          with_reducible refine Ex.nil ?_
          exact main _ _ (by kernel_rfl) (by kernel_rfl) (by kernel_rfl) (by kernel_rfl)
end Mine
end
section
open PySem PySem.W PyProof.Rows
set_option Elab.async false
set_option maxRecDepth 100000
set_option maxHeartbeats 4000000
set_option linter.unusedVariables false
namespace Mine
def foldStep (ps : List (List Nat)) (c : Nat) : List (List Nat) :=
  if cut (some (-3)) none (ps.getLastD [] ++ [c]) == [46, 46, 46] then ps.dropLast ++ [cut none (some (-3)) (ps.getLastD [] ++ [c]), []] else ps.dropLast ++ [ps.getLastD [] ++ [c]]
def folded (t : List Nat) : List (List Nat) := t.foldl foldStep [[]]
theorem cut_m1 {α : Type} (l : List α) : cut none (some (-1)) l = l.dropLast := by
  unfold cut
  show (l.drop 0).take (highI l.length (some (-1)) - 0) = _
  rw [List.drop_zero, Nat.sub_zero, List.dropLast_eq_take]
  congr 1
  unfold highI; simp only; omega
theorem foldStep_ne (ps : List (List Nat)) (c : Nat) : foldStep ps c ≠ [] := by unfold foldStep; split <;> simp
theorem foldStep_len (ps : List (List Nat)) (c : Nat) : (foldStep ps c).length ≤ ps.length + 2 := by
  unfold foldStep; split <;> simp <;> omega
theorem getLastD_mem {ps : List (List Nat)} (h : ps ≠ []) : ps.getLastD [] ∈ ps := by
  rw [List.getLastD_eq_getLast?, List.getLast?_eq_some_getLast h]; exact List.getLast_mem h
theorem foldStep_each {ps : List (List Nat)} {c B : Nat} (hne : ps ≠ []) (h : ∀ p ∈ ps, p.length ≤ B) : ∀ p ∈ foldStep ps c, p.length ≤ B + 1 := by
  have hl := h _ (getLastD_mem hne)
  have hd : ∀ p ∈ ps.dropLast, p.length ≤ B + 1 := fun p hp => Nat.le_succ_of_le (h p (List.dropLast_subset _ hp))
  have hg : (ps.getLastD [] ++ [c]).length ≤ B + 1 := by rw [List.length_append, List.length_singleton]; omega
  intro p hp
  unfold foldStep at hp
  split at hp
  · rcases List.mem_append.mp hp with q | q
    · exact hd p q
    · simp only [List.mem_cons, List.not_mem_nil, or_false] at q
      rcases q with rfl | rfl
      · exact Nat.le_trans (cut_length_le _ _ _) hg
      · simp
  · rcases List.mem_append.mp hp with q | q
    · exact hd p q
    · simp only [List.mem_singleton] at q; rw [q]; exact hg
def forBody : List Stmt → List Stmt | (.For _ _ b _ _) :: _ => b | _ => []
theorem k_folded {w : World} {k : Nat} {t : List Nat} (hl : t.length ≤ 1000) {K : D → Prop} (h : K (.list ((folded t).map D.str))) : Ca (Gr w) (k + 1) (.ref 110) [.str t] K := by
  refine Ca.def (o := fobj 29 m2 .none 109) (fd := fdat 29 m2 .none 109) (body := fbody 29) (names := [Str.ofString "text"]) (fun h x => at_flawfolded x) rfl (fun h x => cd_flawfolded x) rfl rfl rfl rfl (es := [.str t]) ?_ rfl ?_ ?_ ?_ ?_ ?_ ?_
  · intro s vs _ r
    obtain ⟨v0, rfl, r0⟩ := RepAll.inv1 r
    exact ⟨[v0], .cons r0 .nil, .of_eq (by kernel_rfl)⟩
  · decide +kernel
  · show (fscope 29).kind = _; kernel_rfl
  · show (fscope 29).isCoroutine = _; kernel_rfl
  · show (fscope 29).isGenerator = _; kernel_rfl
  · intro n hn
    have := mem_kinds (sc := fscope 29) (by kernel_rfl) hn; exact this
  · show Ex (Gr w) k (fscope 29) _ (fbody 29) _ _
    conv in (fbody 29) => whnf
    with_reducible refine Ex.cons ?_
    with_reducible refine E1.assign (.inl (by kernel_rfl)) ?_
    with_reducible refine Ev.list ?_
    with_reducible refine EvL.one ?_
    with_reducible refine Ev.strL (l := []) (by kernel_rfl) ⟨by decide, ?_⟩
    with_reducible refine Ex.cons ?_
    with_reducible refine E1.for (.inl (by kernel_rfl)) ?_
    with_reducible refine Ev.var (d := .str t) (by kernel_rfl) ⟨t.map fun c => .str [c], rfl, by rw [List.length_map]; simp [sizeLine]; omega, ?_⟩
    have hend : ∀ (ρ' : Rho) (N : Rho → Prop), ρ' (Str.ofString "pieces") = some (.list ((folded t).map D.str)) → Ex (Gr w) k (fscope 29) ρ' ((fbody 29).drop 2) N K := by
      intro ρ' N e
      conv in (List.drop 2 (fbody 29)) => whnf
      with_reducible refine Ex.cons ?_
      with_reducible refine E1.ret ?_
      exact Ev.var e h
    have loop : ∀ (N : Rho → Prop) (body : List Stmt) (hb : body = forBody ((fbody 29).drop 1)) (l : List Nat) (ps : List (List Nat)) (ρ : Rho), ps ≠ [] → ps.length + 2 * l.length ≤ 5000 → (∀ p ∈ ps, p.length + l.length ≤ 5000) →
        ρ (Str.ofString "pieces") = some (.list (ps.map D.str)) → (∀ ρ' : Rho, ρ' (Str.ofString "pieces") = some (.list ((l.foldl foldStep ps).map D.str)) → N ρ') →
        Lo (Gr w) k (fscope 29) (Str.ofString "sign") body N K (l.map fun c => .str [c]) ρ := by
      intro N body hb l
      induction l with
      | nil => intro ps ρ _ _ _ hρ hN; exact hN ρ hρ
      | cons c l ih =>
        intro ps ρ hne h1 h2 hρ hN
        have hs : set ρ (Str.ofString "sign") (.str [c]) (Str.ofString "pieces") = some (.list (ps.map D.str)) := (if_neg (by decide +kernel)).trans hρ
        have hsg : set ρ (Str.ofString "sign") (.str [c]) (Str.ofString "sign") = some (.str [c]) := if_pos rfl
        show Ex (Gr w) k (fscope 29) (set ρ (Str.ofString "sign") (.str [c])) body (fun ρ' => Lo (Gr w) k (fscope 29) (Str.ofString "sign") body N K (l.map fun c => .str [c]) ρ') K
        generalize set ρ (Str.ofString "sign") (.str [c]) = ρ1 at *
        have hpos : 0 < ps.length := List.length_pos_iff.mpr hne
        have hlast := h2 _ (getLastD_mem hne)
        simp only [List.length_cons] at h1 h2 hlast
        have hget : (ps.map D.str)[((-1 : Int) + ((ps.map D.str).length : Int)).toNat]? = some (.str (ps.getLastD [])) := by
          rw [List.length_map, show ((-1 : Int) + (ps.length : Int)).toNat = ps.length - 1 by omega, List.getElem?_map, ← List.getLast?_eq_getElem?, List.getLastD_eq_getLast?, List.getLast?_eq_some_getLast hne]; rfl
        have hfin : ∀ ρ' : Rho, ρ' (Str.ofString "pieces") = some (.list ((foldStep ps c).map D.str)) → Lo (Gr w) k (fscope 29) (Str.ofString "sign") body N K (l.map fun c => .str [c]) ρ' := by
          intro ρ' e
          refine ih (foldStep ps c) ρ' (foldStep_ne ps c) ?_ ?_ e hN
          · have := foldStep_len ps c; omega
          · intro p hp
            have := foldStep_each (B := 5000 - (l.length + 1)) hne (fun p hp => by have := h2 p hp; omega) p hp
            omega
        have hb2 : body = forBody ((fbody 29).drop 1) := hb
        rw [hb2]
        rw [hb2] at hfin
        conv => arg 5; whnf
        with_reducible refine Ex.cons ?_
        with_reducible refine E1.assign (.inl (by kernel_rfl)) ?_
        with_reducible refine Ev.bin ?_
        with_reducible refine Ev.item ?_
        with_reducible refine Ev.var hs ?_
        with_reducible refine Ev.neg ?_
        refine It.listNeg (by decide) (by rw [List.length_map]; omega) hget (by rw [List.length_map]; simp [sizeLine]; omega) ?_
        with_reducible refine Ev.var hsg ?_
        refine Bo.add_str (by rw [List.length_singleton]; simp only [sizeLine]; omega) ?_
        generalize hg : ps.getLastD [] ++ [c] = g at *
        have hgl : g.length ≤ 5001 := by rw [← hg, List.length_append, List.length_singleton]; omega
        have es : set ρ1 (Str.ofString "grown") (.str g) (Str.ofString "pieces") = some (.list (ps.map D.str)) := (if_neg (by decide +kernel)).trans hs
        have eg : set ρ1 (Str.ofString "grown") (.str g) (Str.ofString "grown") = some (.str g) := if_pos rfl
        generalize set ρ1 (Str.ofString "grown") (.str g) = ρ2 at *
        with_reducible refine Ex.cons ?_
        with_reducible refine E1.iteS ?_
        with_reducible refine Tr.cmp ?_
        with_reducible refine Ev.slice ?_
        with_reducible refine Ev.var eg ?_
        with_reducible refine EvO.some ?_
        with_reducible refine Ev.neg ⟨_, rfl, ?_⟩
        with_reducible refine EvO.none ?_
        refine Sl.str (by simp only [sizeLine]; omega) ?_
        with_reducible refine Ev.strL (l := [46, 46, 46]) (by kernel_rfl) ?_
        with_reducible refine Co.eq_str ?_
        unfold foldStep at hfin
        rw [hg] at hfin
        have hdl : (cut none (some (-1)) (ps.map D.str)) = (ps.dropLast).map D.str := by rw [cut_m1, List.map_dropLast]
        have hdll : ((ps.dropLast).map D.str).length + 2 ≤ sizeLine := by rw [List.length_map, List.length_dropLast]; simp only [sizeLine]; omega
        by_cases e : (cut (some (-3)) none g == [46, 46, 46]) = true
        · rw [if_pos e]
          rw [if_pos e] at hfin
          with_reducible refine Ex.cons ?_
          with_reducible refine E1.assign (.inl (by kernel_rfl)) ?_
          with_reducible refine Ev.bin ?_
          with_reducible refine Ev.slice ?_
          with_reducible refine Ev.var es ?_
          with_reducible refine EvO.none ?_
          with_reducible refine EvO.some ?_
          with_reducible refine Ev.neg ⟨_, rfl, ?_⟩
          refine Sl.list (by rw [List.length_map]; simp only [sizeLine]; omega) ?_
          rw [hdl]
          with_reducible refine Ev.list ?_
          with_reducible refine EvL.two ?_
          with_reducible refine Ev.slice ?_
          with_reducible refine Ev.var eg ?_
          with_reducible refine EvO.none ?_
          with_reducible refine EvO.some ?_
          with_reducible refine Ev.neg ⟨_, rfl, ?_⟩
          refine Sl.str (by simp only [sizeLine]; omega) ?_
          with_reducible refine Ev.strL (l := []) (by kernel_rfl) ⟨by simp [sizeLine], ?_⟩
          refine Bo.add_list hdll ?_
          with_reducible refine Ex.nil ?_
          with_reducible refine Ex.nil ?_
          refine hfin _ ?_
          rw [List.map_append]
          exact if_pos rfl
        · rw [if_neg e]
          rw [if_neg e] at hfin
          with_reducible refine Ex.cons ?_
          with_reducible refine E1.assign (.inl (by kernel_rfl)) ?_
          with_reducible refine Ev.bin ?_
          with_reducible refine Ev.slice ?_
          with_reducible refine Ev.var es ?_
          with_reducible refine EvO.none ?_
          with_reducible refine EvO.some ?_
          with_reducible refine Ev.neg ⟨_, rfl, ?_⟩
          refine Sl.list (by rw [List.length_map]; simp only [sizeLine]; omega) ?_
          rw [hdl]
          with_reducible refine Ev.list ?_
          with_reducible refine EvL.one ?_
          with_reducible refine Ev.var eg ⟨by simp [sizeLine], ?_⟩
          refine Bo.add_list (Nat.le_trans (Nat.le_succ _) hdll) ?_
          with_reducible refine Ex.nil ?_
          with_reducible refine Ex.nil ?_
          refine hfin _ ?_
          rw [List.map_append]
          exact if_pos rfl
    refine loop _ _ (by kernel_rfl) t [[]] _ (by simp) (by simp; omega) (by simp; omega) (by kernel_rfl) ?_
    intro ρ' e
    exact hend ρ' _ e
end Mine
end
section
open PySem PySem.W PyProof.Rows
set_option Elab.async false
set_option maxRecDepth 100000
set_option maxHeartbeats 4000000
set_option linter.unusedVariables false
namespace Mine
section
variable {G : Gx} {k : Nat} {sc : Scope} {ρ : Rho}
theorem Ev.fmt {value : Expr} {pos : Pos} {K : D → Prop} (h : Ev G k sc ρ value fun d => ∃ y, d = .str y ∧ y.length ≤ sizeLine ∧ K (.str y)) : Ev G k sc ρ (.FormattedValue value 115 none pos) K := fun A env s ao c => by
  show wpAny (M G) A (do let v ← eval value env; standAt pos; formatted pos (← holding [v] (converted 115 v)) none) _ _ s
  refine wpAny_bind (wpAny_mono (h A env s ao c) (fun v s₁ q => ?_) fun _ _ e => e)
  obtain ⟨k1, d, ⟨y, rfl, hy, hK⟩, r⟩ := q
  obtain ⟨u, rfl⟩ := r.strInv
  have hy' : (S y).length ≤ sizeLine := by simpa [PySem.Str.length] using hy
  refine wp_kp k1 (up ?_)
  refine wpAny_bind (wpAny_standAt ?_)
  show wpAny _ _ (do let v' ← holding [.str (S y) u] (habitSame "fstring-hands-on-the-str" (.str (S y) u)); formatField v' Str.empty) _ _ s₁
  refine wpAny_bind (wpAny_holding (habitSame_str (fun t' tk => ?_) hy'))
  exact formatField_str (fun t'' tk' => ⟨⟨s₁.heap, tk', rfl, fun _ _ e => e⟩, _, hK, .str⟩) hy'
def Jp (G : Gx) (k : Nat) (sc : Scope) (ρ : Rho) : List Expr → List Nat → (List Nat → Prop) → Prop
  | [], acc, K => acc.length ≤ sizeLine ∧ K acc
  | e :: rest, acc, K => Ev G k sc ρ e fun d => ∃ y, d = .str y ∧ (acc ++ y).length ≤ sizeLine ∧ Jp G k sc ρ rest (acc ++ y) K
theorem joinJp {A : Around} {env : Env} {K : List Nat → Prop} (ao : AOk k A) : ∀ (es : List Expr) (acc : List Nat) (s : Shared), Cx G sc env ρ s → Jp G k sc ρ es acc K → wpAny (M G) A (joinParts (S acc) (evalEach es env)) (Po s fun d => ∃ y, d = .str y ∧ K y) No s
  | [], acc, s, c, h => joinParts_nil ⟨⟨ke_tok s _, Nat.le_succ _⟩, _, ⟨_, rfl, h.2⟩, .str⟩ (by simpa [PySem.Str.length] using h.1)
  | e :: es, acc, s, c, h => by
    show wpAny (M G) A (joinParts (S acc) (eval e env :: evalEach es env)) _ _ s
    refine joinParts_cons (wpAny_mono (h A env s ao c) (fun v s₁ q => ?_) fun _ _ e => e)
    obtain ⟨k1, d, ⟨y, rfl, hy, hJ⟩, r⟩ := q
    obtain ⟨u, rfl⟩ := r.strInv
    refine ⟨by rw [S_append]; simpa [PySem.Str.length] using hy, ?_⟩
    rw [S_append]
    exact wp_kp k1 (joinJp ao es (acc ++ y) s₁ (c.kp k1) hJ)
theorem Ev.joined {v₁ v₂ : Expr} {rest : List Expr} {pos : Pos} {K : D → Prop} (h : Jp G k sc ρ (v₁ :: v₂ :: rest) [] fun y => K (.str y)) : Ev G k sc ρ (.JoinedStr (v₁ :: v₂ :: rest) pos) K := fun A env s ao c => by
  refine JoinedStr_many ?_
  refine wpAny_mono (joinJp ao (v₁ :: v₂ :: rest) [] s c h) (fun v s' q => ?_) fun _ _ e => e
  obtain ⟨k1, d, ⟨y, rfl, hK⟩, r⟩ := q
  exact ⟨k1, _, hK, r⟩
end
theorem sl_translate : Slot "str" (Str.ofString "translate") "str.translate" := F.slot_str_translate
theorem sl_decode : Slot "bytes" (Str.ofString "decode") "bytes.decode" := FB.slot_bytes_decode
theorem tab_getD {f : Nat → List Nat} {c : Nat} (hc : c < 256) : (tab f).getD c [] = f c := by
  unfold tab
  rw [List.getD_eq_getElem?_getD, List.getElem?_map, List.getElem?_range hc]; rfl
theorem tab_length (f : Nat → List Nat) : (tab f).length = 256 := by unfold tab; simp
theorem hdrT_len (j : Nat) : (hdrT j).length ≤ 3 := by unfold hdrT hexT; split <;> (try split) <;> simp
theorem bdyT_len (j : Nat) : (bdyT j).length ≤ 3 := by unfold bdyT hexT; split <;> (try split) <;> (try split) <;> simp
theorem flat_tab {f : Nat → List Nat} {t : List Nat} (ht : ∀ c ∈ t, c < 256) : (t.flatMap fun c => (tab f).getD c []) = t.flatMap f := by
  induction t with
  | nil => rfl
  | cons c t ih => rw [List.flatMap_cons, List.flatMap_cons, tab_getD (ht c (List.mem_cons_self ..)), ih (fun d hd => ht d (List.mem_cons_of_mem _ hd))]
theorem toNat_map {t : List Nat} (ht : ∀ c ∈ t, c < 256) : (t.map fun n => n.toUInt8).map (·.toNat) = t := by
  induction t with
  | nil => rfl
  | cons c t ih =>
    rw [List.map_cons, List.map_cons, ih (fun d hd => ht d (List.mem_cons_of_mem _ hd))]
    have := ht c (List.mem_cons_self ..)
    congr 1
    show (UInt8.ofNat c).toNat = c
    rw [UInt8.toNat_ofNat']; omega
theorem flat_len {f : Nat → List Nat} (hf : ∀ j, (f j).length ≤ 3) (t : List Nat) : (t.flatMap f).length ≤ 3 * t.length := by
  induction t with
  | nil => simp
  | cons c t ih => have := hf c; rw [List.flatMap_cons, List.length_append, List.length_cons]; omega
theorem at_def45 {w : World} {h : Heap} (x : (Gr w).W h) : h.get? 45 = some { cls := .type tyTp, data := .seq ⟨[.str (Str.ofString "iso-8859-1") 1751]⟩ 0 } := by
  obtain ⟨-, -, -, -, -, -, -, -, -, -, -, -, -, -, -, -, -, -, -, -, -, -, -, -, -, -, -, e, -⟩ := hf w.params
  exact x _ _ e
theorem at_def58 {w : World} {h : Heap} (x : (Gr w).W h) : h.get? 58 = some { cls := .type tyTp, data := .seq ⟨[.int 76 1769, .str (Str.ofString "\n") 205]⟩ 0 } := by
  obtain ⟨-, -, -, -, -, -, -, -, -, -, -, -, -, -, -, -, -, -, -, -, -, -, -, -, -, -, -, -, e⟩ := hf w.params
  exact x _ _ e
noncomputable def hdrE (q t : List Nat) : List Nat := if t.isEmpty then [] else [61, 63] ++ q ++ [63, 113, 63] ++ t.flatMap hdrT ++ [63, 61]
theorem k_header {w : World} {k : Nat} {t q : List Nat} (ht : ∀ c ∈ t, c < 256) (hl : t.length ≤ 1000) (hq : q.length ≤ 1000) {K : D → Prop} (h : K (.str (hdrE q t))) : Ca (Gr w) (k + 1) (.ref 52) [.bytes (t.map fun n => n.toUInt8), .str q] K := by
  refine Ca.def (o := fobj 17 m1 (.ref 45) 51) (fd := fdat 17 m1 (.ref 45) 51) (body := fbody 17) (names := [Str.ofString "header_bytes", Str.ofString "charset"]) (fun h x => at_fheaderencode x) rfl (fun h x => cd_fheaderencode x) rfl rfl rfl rfl (es := [.bytes (t.map fun n => n.toUInt8), .str q]) ?_ rfl ?_ ?_ ?_ ?_ ?_ ?_
  · intro s vs hW r
    obtain ⟨v0, v1, rfl, r0, r1⟩ := RepAll.inv2 r
    refine ⟨[v0, v1], .cons r0 (.cons r1 .nil), ?_⟩; exact BindsTo.of_defaults (T := 45) rfl (at_def45 hW) rfl rfl (by kernel_rfl)
  · decide +kernel
  · show (fscope 17).kind = _; kernel_rfl
  · show (fscope 17).isCoroutine = _; kernel_rfl
  · show (fscope 17).isGenerator = _; kernel_rfl
  · intro n hn
    have := mem_kinds (sc := fscope 17) (by kernel_rfl) hn; exact this
  · show Ex (Gr w) k (fscope 17) _ (fbody 17) _ _
    conv in (fbody 17) => whnf
    unfold hdrE at h
    with_reducible refine Ex.cons ?_
    with_reducible refine E1.iteS ?_
    with_reducible refine Tr.not ?_
    with_reducible refine Tr.plain ?_
    with_reducible refine Ev.var (d := .bytes (t.map fun n => n.toUInt8)) (by kernel_rfl) ?_
    refine Th.bytes (by rw [List.length_map]; simp [sizeLine]; omega) ?_
    cases t with
    | nil =>
      rw [if_pos (by rfl)]
      with_reducible refine Ex.cons ?_
      with_reducible refine E1.ret ?_
      exact Ev.strL (by kernel_rfl) h
    | cons c t' =>
      rw [if_neg (by simp)]
      generalize hT : c :: t' = t at *
      have hne : t ≠ [] := by rw [← hT]; simp
      rw [if_neg (by simpa using hne)] at h
      with_reducible refine Ex.nil ?_
      with_reducible refine Ex.cons ?_
      with_reducible refine E1.assign (.inl (by kernel_rfl)) ?_
      with_reducible refine Ev.meths sl_translate F.type_str_translate ?_
      with_reducible refine Ev.methb sl_decode FB.type_bytes_decode ?_
      with_reducible refine Ev.var (d := .bytes (t.map fun n => n.toUInt8)) (by kernel_rfl) ⟨_, rfl, ?_⟩
      with_reducible refine EvL.one ?_
      with_reducible refine Ev.str ?_
      refine Ca.decode rfl (by simpa using hne) (by rw [List.length_map]; simp [sizeLine]; omega) ⟨_, rfl, ?_⟩
      rw [toNat_map ht]
      with_reducible refine EvL.one ?_
      with_reducible refine Ev.glob g_hmap (by kernel_rfl) ?_
      refine Ca.translate (fun c hc => ⟨ht c hc, by rw [tab_length]; exact ht c hc, by rw [tab_getD (ht c hc)]; exact hdrT_len c⟩) (by simp [sizeLine]; omega) ?_
      rw [flat_tab ht]
      with_reducible refine Ex.cons ?_
      with_reducible refine E1.ret ?_
      have hfl := flat_len hdrT_len t
      with_reducible refine Ev.joined ?_
      refine Ev.strL (l := [61, 63]) (by kernel_rfl) ⟨_, rfl, by simp [sizeLine], ?_⟩
      refine Ev.fmt ?_
      with_reducible refine Ev.var (d := .str q) (by kernel_rfl) ⟨_, rfl, by simp [sizeLine]; omega, _, rfl, by simp [sizeLine]; omega, ?_⟩
      refine Ev.strL (l := [63, 113, 63]) (by kernel_rfl) ⟨_, rfl, by simp [sizeLine]; omega, ?_⟩
      refine Ev.fmt ?_
      with_reducible refine Ev.var (d := .str (t.flatMap hdrT)) (by kernel_rfl) ⟨_, rfl, by simp only [sizeLine]; omega, _, rfl, by simp only [sizeLine, List.length_append, List.length_cons, List.length_nil]; omega, ?_⟩
      refine Ev.strL (l := [63, 61]) (by kernel_rfl) ⟨_, rfl, by simp only [sizeLine, List.length_append, List.length_cons, List.length_nil]; omega, ?_⟩
      exact ⟨by simp only [sizeLine, List.length_append, List.length_cons, List.length_nil]; omega, h⟩
end Mine
end
section
open PySem PySem.W PyProof.Rows
set_option Elab.async false
set_option maxRecDepth 100000
set_option maxHeartbeats 4000000
set_option linter.unusedVariables false
namespace Mine
def nats (l : List Nat) : List D := (l.map fun (n : Nat) => (n : Int)).map D.int
theorem nats_append (a b : List Nat) : nats (a ++ b) = nats a ++ nats b := by unfold nats; rw [List.map_append, List.map_append]
theorem nats_len (a : List Nat) : (nats a).length = a.length := by unfold nats; rw [List.length_map, List.length_map]
theorem Flat.zip {names : List Str} {es : List D} (h : ∀ d ∈ es, NoL d) : Flat fun y => (names.zip es).lookup y := fun y d q => h d (List.of_mem_zip (lookup_mem q)).2
theorem set_ne {ρ : Rho} {x y : Str} {d : D} (h : y ≠ x) : set ρ x d y = ρ y := if_neg h
theorem set_eq {ρ : Rho} {x : Str} {d : D} : set ρ x d x = some d := if_pos rfl
theorem plcF_len (esc : List Nat) : ∀ (t : List Nat) (i : Nat), (plcF esc i t).length ≤ 3 * t.length + 1
  | [], _ => by simp [plcF]
  | c :: r, i => by
    have := plcF_len esc r (i + 1)
    unfold plcF
    split <;> simp <;> omega
theorem plcF_cons (esc : List Nat) (i c : Nat) (r : List Nat) : plcF esc i (c :: r) = (if c ∈ esc then [3 * i, 3 * i + 1, 3 * i + 2] else [3 * i]) ++ plcF esc (i + 1) r := rfl
theorem k_places {w : World} {k : Nat} {t esc : List Nat} (hl : t.length ≤ 1000) {K : D → Prop} (h : K (.list (nats (plcF esc 0 t)))) : Ca (Gr w) (k + 1) (.ref 84) [.str t, .str esc] K := by
  refine Ca.def (o := fobj 25 m2 .none 83) (fd := fdat 25 m2 .none 83) (body := fbody 25) (names := [Str.ofString "text", Str.ofString "escaped"]) (fun h x => at_flawplaces x) rfl (fun h x => cd_flawplaces x) rfl rfl rfl rfl (es := [.str t, .str esc]) ?_ rfl ?_ ?_ ?_ ?_ ?_ ?_
  · intro s vs _ r
    obtain ⟨v0, v1, rfl, r0, r1⟩ := RepAll.inv2 r
    exact ⟨[v0, v1], .cons r0 (.cons r1 .nil), .of_eq (by kernel_rfl)⟩
  · decide +kernel
  · show (fscope 25).kind = _; kernel_rfl
  · show (fscope 25).isCoroutine = _; kernel_rfl
  · show (fscope 25).isGenerator = _; kernel_rfl
  · intro n hn
    have := mem_kinds (sc := fscope 25) (by kernel_rfl) hn; exact this
  · show Ex (Gr w) k (fscope 25) _ (fbody 25) _ _
    have hflat : Flat fun y => (([Str.ofString "text", Str.ofString "escaped"] : List Str).zip [D.str t, .str esc]).lookup y := Flat.zip (by intro d hd; simp only [List.mem_cons, List.not_mem_nil, or_false] at hd; rcases hd with rfl | rfl <;> exact .str)
    have h1 : (fun y => (([Str.ofString "text", Str.ofString "escaped"] : List Str).zip [D.str t, .str esc]).lookup y) (Str.ofString "text") = some (.str t) := by kernel_rfl
    have h2 : (fun y => (([Str.ofString "text", Str.ofString "escaped"] : List Str).zip [D.str t, .str esc]).lookup y) (Str.ofString "escaped") = some (.str esc) := by kernel_rfl
    generalize (fun y => (([Str.ofString "text", Str.ofString "escaped"] : List Str).zip [D.str t, .str esc]).lookup y) = ρ0 at *
    conv in (fbody 25) => whnf
    with_reducible refine Ex.make (by kernel_rfl) ?_
    with_reducible refine EvF.list ?_
    with_reducible refine EvL.nil ⟨by decide, [], rfl, (fun d hd => absurd hd List.not_mem_nil), fun a => ?_⟩
    have g1 : set ρ0 (Str.ofString "places") (.raw (.ref a)) (Str.ofString "text") = some (.str t) := (set_ne (by decide +kernel)).trans h1
    have g2 : set ρ0 (Str.ofString "places") (.raw (.ref a)) (Str.ofString "escaped") = some (.str esc) := (set_ne (by decide +kernel)).trans h2
    have g3 : set ρ0 (Str.ofString "places") (.raw (.ref a)) (Str.ofString "places") = some (.raw (.ref a)) := set_eq
    have g4 : Flat (set ρ0 (Str.ofString "places") (.raw (.ref a))) := hflat.set .raw
    generalize set ρ0 (Str.ofString "places") (.raw (.ref a)) = ρ1 at *
    with_reducible refine Exo.cons ?_
    with_reducible refine E1o.for (.inl (by kernel_rfl)) ?_
    with_reducible refine EvF.callt g_range (by kernel_rfl) ?_
    with_reducible refine EvL.one ?_
    with_reducible refine Ev.callb g_len (by kernel_rfl) ?_
    with_reducible refine EvL.one ?_
    with_reducible refine Ev.var g1 ?_
    refine Ca.len_str (by simp [sizeLine]; omega) ?_
    refine CaF.range ⟨_, rfl, by rw [List.length_map, List.length_range]; simp [sizeLine]; omega, ?_, ?_⟩
    · intro d hd
      obtain ⟨i, _, rfl⟩ := List.mem_map.mp hd
      exact .int
    have hend : ∀ (ρ' : Rho) (ds : List Nat) (N : Rho → List D → Prop), ρ' (Str.ofString "text") = some (.str t) → ρ' (Str.ofString "places") = some (.raw (.ref a)) → ds.length ≤ 3000 → ds ++ [3 * t.length] = plcF esc 0 t → Exo (Gr w) k (fscope 25) a none ρ' (nats ds) ((fbody 25).drop 2) N K := by
      intro ρ' ds N e1 e2 hlen e3
      conv in (List.drop 2 (fbody 25)) => whnf
      with_reducible refine Exo.leave e2 ?_
      with_reducible refine Ex.cons ?_
      with_reducible refine E1.ret ?_
      with_reducible refine Ev.bin ?_
      with_reducible refine Ev.var (d := .list (nats ds)) set_eq ?_
      with_reducible refine Ev.list ?_
      with_reducible refine EvL.one ?_
      with_reducible refine Ev.bin ?_
      with_reducible refine Ev.int ?_
      with_reducible refine Ev.callb g_len (by kernel_rfl) ?_
      with_reducible refine EvL.one ?_
      with_reducible refine Ev.var (d := .str t) ((set_ne (by decide +kernel)).trans e1) ?_
      refine Ca.len_str (by simp [sizeLine]; omega) (Bo.mul_int (IntMulOk.of_left (by decide +kernel)) ⟨by simp [sizeLine], ?_⟩)
      refine Bo.add_list (by rw [nats_len]; simp [sizeLine]; omega) ?_
      rw [← e3, nats_append] at h
      exact h
    have inner : ∀ (N : Rho → List D → Prop) (body : List Stmt) (hb : body = forBody (forBody ((fbody 25).drop 1))) (i : Nat) (ks : List Nat) (ρ : Rho) (ds : List Nat), Flat ρ → ρ (Str.ofString "places") = some (.raw (.ref a)) → ρ (Str.ofString "i") = some (.int i) → ρ (Str.ofString "text") = some (.str t) → ρ (Str.ofString "escaped") = some (.str esc) → ds.length + ks.length ≤ 10000 →
        (∀ ρ' : Rho, Flat ρ' → ρ' (Str.ofString "places") = some (.raw (.ref a)) → ρ' (Str.ofString "text") = some (.str t) → ρ' (Str.ofString "escaped") = some (.str esc) → N ρ' (nats (ds ++ ks.map fun k => 3 * i + k))) →
        Loo (Gr w) k (fscope 25) a none (Str.ofString "k") body N K (ks.map fun (k : Nat) => .int k) ρ (nats ds) := by
      intro N body hb i ks
      induction ks with
      | nil => intro ρ ds f1 f2 f3 f4 f5 _ hN; have := hN ρ f1 f2 f4 f5; simpa [Loo] using this
      | cons q ks ih =>
        intro ρ ds f1 f2 f3 f4 f5 hlen hN
        simp only [List.length_cons] at hlen
        show Exo (Gr w) k (fscope 25) a none (set ρ (Str.ofString "k") (.int q)) (nats ds) body (fun ρ' ds' => Loo (Gr w) k (fscope 25) a none (Str.ofString "k") body N K (ks.map fun (k : Nat) => .int k) ρ' ds') K
        have e1 : Flat (set ρ (Str.ofString "k") (.int q)) := f1.set .int
        have e2 := (set_ne (ρ := ρ) (x := Str.ofString "k") (y := Str.ofString "places") (d := .int q) (by decide +kernel)).trans f2
        have e3 := (set_ne (ρ := ρ) (x := Str.ofString "k") (y := Str.ofString "i") (d := .int q) (by decide +kernel)).trans f3
        have e4 := (set_ne (ρ := ρ) (x := Str.ofString "k") (y := Str.ofString "text") (d := .int q) (by decide +kernel)).trans f4
        have e5 := (set_ne (ρ := ρ) (x := Str.ofString "k") (y := Str.ofString "escaped") (d := .int q) (by decide +kernel)).trans f5
        have e6 : set ρ (Str.ofString "k") (.int q) (Str.ofString "k") = some (.int q) := set_eq
        generalize set ρ (Str.ofString "k") (.int q) = ρ2 at *
        have ih2 := fun hN' => ih ρ2 (ds ++ [3 * i + q]) e1 e2 e3 e4 e5 (by rw [List.length_append, List.length_singleton]; omega) hN'
        rw [hb] at ih2 ⊢
        conv => arg 8; whnf
        with_reducible refine Exo.cons ?_
        with_reducible refine E1o.append e2 e1 (by rw [nats_len]; simp only [sizeLine]; omega) ?_
        with_reducible refine Ev.bin ?_
        with_reducible refine Ev.bin ?_
        with_reducible refine Ev.int ?_
        with_reducible refine Ev.var e3 ?_
        refine Bo.mul_int (IntMulOk.of_left (by decide +kernel)) ?_
        with_reducible refine Ev.var e6 ?_
        refine Bo.add_int ⟨.int, ?_⟩
        with_reducible refine Exo.nil ?_
        have e : nats ds ++ [.int (3 * (i : Int) + (q : Int))] = nats (ds ++ [3 * i + q]) := by
          rw [nats_append]; unfold nats; simp
        rw [e]
        refine ih2 ?_
        intro ρ' a1 a2 a3 a4
        have := hN ρ' a1 a2 a3 a4
        simpa using this
    have loop : ∀ (N : Rho → List D → Prop) (body : List Stmt) (hb : body = forBody ((fbody 25).drop 1)) (m j : Nat), j + m = t.length → ∀ (ρ : Rho) (ds : List Nat), Flat ρ → ρ (Str.ofString "places") = some (.raw (.ref a)) → ρ (Str.ofString "text") = some (.str t) → ρ (Str.ofString "escaped") = some (.str esc) → ds.length ≤ 3 * j →
        ds ++ plcF esc j (t.drop j) = plcF esc 0 t →
        (∀ (ρ' : Rho) (ds' : List Nat), Flat ρ' → ρ' (Str.ofString "places") = some (.raw (.ref a)) → ρ' (Str.ofString "text") = some (.str t) → ρ' (Str.ofString "escaped") = some (.str esc) → ds'.length ≤ 3000 → ds' ++ [3 * t.length] = plcF esc 0 t → N ρ' (nats ds')) →
        Loo (Gr w) k (fscope 25) a none (Str.ofString "i") body N K ((List.range' j m).map fun (i : Nat) => .int i) ρ (nats ds) := by
      intro N body hb m
      induction m with
      | zero =>
        intro j hj ρ ds f1 f2 f3 f4 hlen he hN
        have hj' : j = t.length := by omega
        subst hj'
        rw [List.drop_length] at he
        exact hN ρ ds f1 f2 f3 f4 (by omega) he
      | succ m ih =>
        intro j hj ρ ds f1 f2 f3 f4 hlen he hN
        have hlt : j < t.length := by omega
        have hdrop : t.drop j = t[j] :: t.drop (j + 1) := List.drop_eq_getElem_cons hlt
        rw [hdrop] at he
        have hget : t[((j : Nat) : Int).toNat]? = some t[j] := by rw [Int.toNat_natCast]; exact List.getElem?_eq_getElem hlt
        rw [List.range'_succ, List.map_cons]
        show Exo (Gr w) k (fscope 25) a none (set ρ (Str.ofString "i") (.int j)) (nats ds) body (fun ρ' ds' => Loo (Gr w) k (fscope 25) a none (Str.ofString "i") body N K ((List.range' (j + 1) m).map fun (i : Nat) => .int i) ρ' ds') K
        have e1 : Flat (set ρ (Str.ofString "i") (.int j)) := f1.set .int
        have e2 := (set_ne (ρ := ρ) (x := Str.ofString "i") (y := Str.ofString "places") (d := .int j) (by decide +kernel)).trans f2
        have e3 := (set_ne (ρ := ρ) (x := Str.ofString "i") (y := Str.ofString "text") (d := .int j) (by decide +kernel)).trans f3
        have e4 := (set_ne (ρ := ρ) (x := Str.ofString "i") (y := Str.ofString "escaped") (d := .int j) (by decide +kernel)).trans f4
        have e5 : set ρ (Str.ofString "i") (.int j) (Str.ofString "i") = some (.int j) := set_eq
        generalize set ρ (Str.ofString "i") (.int j) = ρ2 at *
        have hfin : ∀ (ρ' : Rho) (blk : List Nat), Flat ρ' → ρ' (Str.ofString "places") = some (.raw (.ref a)) → ρ' (Str.ofString "text") = some (.str t) → ρ' (Str.ofString "escaped") = some (.str esc) → blk.length ≤ 3 → (ds ++ blk) ++ plcF esc (j + 1) (t.drop (j + 1)) = plcF esc 0 t → Loo (Gr w) k (fscope 25) a none (Str.ofString "i") body N K ((List.range' (j + 1) m).map fun (i : Nat) => .int i) ρ' (nats (ds ++ blk)) := by
          intro ρ' blk a1 a2 a3 a4 a5 a6
          exact ih (j + 1) (by omega) ρ' (ds ++ blk) a1 a2 a3 a4 (by rw [List.length_append]; omega) a6 hN
        rw [hb] at hfin ⊢
        conv => arg 8; whnf
        with_reducible refine Exo.cons ?_
        with_reducible refine E1o.for (.inl (by kernel_rfl)) ?_
        with_reducible refine EvF.callt g_range (by kernel_rfl) ?_
        with_reducible refine EvL.one ?_
        with_reducible refine Ev.ite ?_
        with_reducible refine Tr.cmp ?_
        with_reducible refine Ev.item ?_
        with_reducible refine Ev.var e3 ?_
        with_reducible refine Ev.var e5 ?_
        refine It.str (by omega) hget (by simp [sizeLine]; omega) ?_
        with_reducible refine Ev.var e4 ?_
        with_reducible refine Co.in_str ?_
        rw [contains_one]
        rw [plcF_cons] at he
        by_cases e : t[j] ∈ esc
        · rw [if_pos (by simpa using e)]
          rw [if_pos e] at he
          with_reducible refine Ev.int ?_
          refine CaF.range (n := 3) ⟨_, rfl, by decide, ?_, ?_⟩
          · intro d hd
            obtain ⟨i, _, rfl⟩ := List.mem_map.mp hd
            exact .int
          · refine inner _ _ (by kernel_rfl) j [0, 1, 2] ρ2 ds e1 e2 e5 e3 e4 (by simp; omega) ?_
            intro ρ' a1 a2 a3 a4
            exact Exo.nil (hfin ρ' _ a1 a2 a3 a4 (by simp) (by simpa using he))
        · rw [if_neg (by simpa using e)]
          rw [if_neg e] at he
          with_reducible refine Ev.int ?_
          refine CaF.range (n := 1) ⟨_, rfl, by decide, ?_, ?_⟩
          · intro d hd
            obtain ⟨i, _, rfl⟩ := List.mem_map.mp hd
            exact .int
          · refine inner _ _ (by kernel_rfl) j [0] ρ2 ds e1 e2 e5 e3 e4 (by simp; omega) ?_
            intro ρ' a1 a2 a3 a4
            exact Exo.nil (hfin ρ' _ a1 a2 a3 a4 (by simp) (by simpa using he))
    have hr : (List.range t.length).map (fun (i : Nat) => D.int i) = (List.range' 0 t.length).map (fun (i : Nat) => D.int i) := by rw [List.range_eq_range']
    rw [hr]
    refine loop _ _ (by kernel_rfl) t.length 0 (by omega) ρ1 [] g4 g3 g1 g2 (by simp) (by simp) ?_
    intro ρ' ds' a1 a2 a3 a4 a5 a6
    exact hend ρ' ds' _ a3 a2 a5 a6
end Mine
end
section
open PySem PySem.W PyProof.Rows
set_option Elab.async false
set_option maxRecDepth 100000
set_option maxHeartbeats 4000000
set_option linter.unusedVariables false
namespace Mine
theorem CompP.filtD {G : Gx} {k : Nat} {sc : Scope} {ρ : Rho} {x : Str} {elt t : Expr} {f : D → D} {p : D → Bool} : ∀ {ds acc : List D} {K : List D → Prop}, (∀ d ∈ ds, ∀ K' : Bool → Prop, K' (p d) → Tr G k sc (set ρ x d) t K') → (∀ d ∈ ds, p d = true → ∀ K' : D → Prop, K' (f d) → Ev G k sc (set ρ x d) elt K') → (∀ d ∈ ds, NoL (f d)) →
    K (acc ++ (ds.filter p).map f) → CompP G k sc ρ x [t] elt ds acc K
  | [], acc, K, _, _, _, h => by simpa [CompP] using h
  | d :: ds, acc, K, h1, h2, h3, h => by
    refine h1 d (List.mem_cons_self ..) _ ?_
    have ih := fun acc' h' => CompP.filtD (acc := acc') (K := K) (fun e he => h1 e (List.mem_cons_of_mem _ he)) (fun e he => h2 e (List.mem_cons_of_mem _ he)) (fun e he => h3 e (List.mem_cons_of_mem _ he)) h'
    cases e : p d with
    | false =>
      rw [if_neg (by decide)]
      exact ih acc (by simpa [List.filter_cons, e] using h)
    | true =>
      rw [if_pos rfl]
      exact h2 d (List.mem_cons_self ..) e _ ⟨h3 d (List.mem_cons_self ..), ih _ (by simpa [List.filter_cons, e] using h)⟩
theorem freeOk_of {scope sc : Scope} {ρ : Rho} (l : List Str) (h : scope.names.all (fun y => y.2 != .free || ((sc.names.lookup y.1 == some .cell || sc.names.lookup y.1 == some .free) && l.contains y.1 && !(y.1 == ("__classdict__" : Str)))) = true) (hl : ∀ y ∈ l, (ρ y).isSome = true) : freeOk scope sc ρ = true := by
  unfold freeOk
  rw [List.all_eq_true] at h ⊢
  intro y hy
  have := h y hy
  simp only [Bool.or_eq_true, Bool.and_eq_true] at this ⊢
  rcases this with q | q
  · exact .inl q
  · exact .inr ⟨⟨q.1.1, hl _ (by simpa using q.1.2)⟩, q.2⟩
theorem inner_get {scope : Scope} {ρ : Rho} {y : Str} (h : scope.names.lookup y = some .free) : inner scope ρ y = ρ y := if_pos h
theorem plcF_mem {esc : List Nat} {q : Nat} : ∀ {t : List Nat} {i : Nat}, q ∈ plcF esc i t → q ≤ 3 * (i + t.length) ∧ (q % 3 > 0 → q / 3 < i + t.length)
  | [], i, h => by
    simp [plcF] at h; subst h; simp
  | c :: r, i, h => by
    rw [plcF_cons, List.mem_append] at h
    rcases h with h | h
    · rw [List.length_cons]
      split at h <;> simp at h <;> omega
    · have := plcF_mem h
      rw [List.length_cons]; omega
theorem led_filt (l : List Nat) (p t : List Nat) : (((l.map fun x => ledI x p t).map D.int).filter fun d => match d with | .int i => decide (i ≥ 0) | _ => false) = nats (l.filterMap fun x => led x p t) := by
  induction l with
  | nil => rfl
  | cons x l ih =>
    simp only [List.map_cons, List.filter_cons, List.filterMap_cons]
    unfold ledI
    cases e : led x p t with
    | none => simpa [ledI] using ih
    | some v =>
      simp only [ge_iff_le, Int.natCast_nonneg, decide_true, if_true]
      unfold nats at ih ⊢
      rw [List.map_cons, List.map_cons]
      exact congrArg _ ih
theorem min_cast {l : List Nat} {m : Nat} (h : l.min? = some m) : (l.map fun (n : Nat) => (n : Int)).min? = some (m : Int) := by
  rw [List.min?_eq_some_iff] at h ⊢
  refine ⟨List.mem_map_of_mem h.1, fun b hb => ?_⟩
  obtain ⟨x, hx, rfl⟩ := List.mem_map.mp hb
  have := h.2 x hx
  omega
theorem nats_filter (l : List Nat) (m : Nat) : (nats l).filter (fun d => match d with | .int i => decide (i ≥ (m : Int)) | _ => false) = nats (l.filter fun x => decide (m ≤ x)) := by
  induction l with
  | nil => rfl
  | cons x l ih =>
    unfold nats at ih ⊢
    simp only [List.map_cons, List.filter_cons]
    by_cases h : m ≤ x
    · have h' : ((x : Int) ≥ (m : Int)) := by omega
      simp only [h, h', decide_true, if_true, List.map_cons]
      exact congrArg _ ih
    · have h' : ¬ ((x : Int) ≥ (m : Int)) := by omega
      simp only [h, h', decide_false, if_false, Bool.false_eq_true]
      exact ih
theorem int_of_nats {l : List Nat} {d : D} (h : d ∈ nats l) : ∃ n ∈ l, d = .int ((n : Nat) : Int) := by
  unfold nats at h
  rw [List.map_map] at h
  obtain ⟨n, hn, rfl⟩ := List.mem_map.mp h
  exact ⟨n, hn, rfl⟩
theorem k_ends {w : World} {k : Nat} {ps : List (List Nat)} {p0 t esc : List Nat} (hl : t.length ≤ 1000) (hc : ∀ c ∈ t, c < 256) (hps : ps.length ≤ 1000) (hp : ∀ p ∈ p0 :: ps, p.length ≤ 1000) {K : D → Prop} (h : K (.list (nats (ends (p0 :: ps) t esc)))) : Ca (Gr w) (k + 3) (.ref 96) [.list ((p0 :: ps).map D.str), .str t, .str esc] K := by
  refine Ca.def (o := fobj 27 m2 .none 95) (fd := fdat 27 m2 .none 95) (body := fbody 27) (names := [Str.ofString "pieces", Str.ofString "text", Str.ofString "escaped"]) (fun h x => at_flawends x) rfl (fun h x => cd_flawends x) rfl rfl rfl rfl (es := [.list ((p0 :: ps).map D.str), .str t, .str esc]) ?_ rfl ?_ ?_ ?_ ?_ ?_ ?_
  · intro s vs _ r
    obtain ⟨v0, v1, v2, rfl, r0, r1, r2⟩ := RepAll.inv3 r
    exact ⟨[v0, v1, v2], .cons r0 (.cons r1 (.cons r2 .nil)), .of_eq (by kernel_rfl)⟩
  · decide +kernel
  · show (fscope 27).kind = _; kernel_rfl
  · show (fscope 27).isCoroutine = _; kernel_rfl
  · show (fscope 27).isGenerator = _; kernel_rfl
  · intro n hn
    have := mem_kinds (sc := fscope 27) (by kernel_rfl) hn; exact this
  · show Ex (Gr w) (k + 2) (fscope 27) _ (fbody 27) _ _
    conv in (fbody 27) => whnf
    with_reducible refine Ex.cons ?_
    with_reducible refine E1.assign (.inl (by kernel_rfl)) ?_
    with_reducible refine Ev.calld g_lawplaces (by kernel_rfl) (fun h x => ⟨_, _, at_flawplaces x, rfl⟩) ?_
    with_reducible refine EvL.two ?_
    with_reducible refine Ev.var (d := .str t) (by kernel_rfl) ?_
    with_reducible refine Ev.var (d := .str esc) (by kernel_rfl) ?_
    refine k_places hl ?_
    with_reducible refine Ex.cons ?_
    with_reducible refine E1.assignComp (by kernel_rfl) (by kernel_rfl) (by decide +kernel) (by kernel_rfl) (by decide +kernel) (by kernel_rfl) ?_ ?hsw1
    case hsw1 => intro env he; cases env; dsimp only at he; subst he; kernel_rfl
    with_reducible refine Ev.list ?_
    with_reducible refine EvL.one ?_
    with_reducible refine Ev.calld g_lawled (by kernel_rfl) (fun h x => ⟨_, _, at_flawled x, rfl⟩) ?_
    with_reducible refine EvL.three ?_
    with_reducible refine Ev.int ?_
    with_reducible refine Ev.item ?_
    with_reducible refine Ev.var (d := .list ((p0 :: ps).map D.str)) (by kernel_rfl) ?_
    with_reducible refine Ev.int ?_
    refine It.list (d := .str p0) (by decide) rfl (by rw [List.length_map]; simp [sizeLine]; omega) ?_
    with_reducible refine Ev.var (d := .str t) (by kernel_rfl) ?_
    refine k_led (place := 0) (hp p0 (List.mem_cons_self ..)) hl (by decide) (fun h => absurd h (by decide)) hc ⟨by show 1 ≤ sizeLine; decide, _, rfl, by show 1 ≤ sizeLine; decide, ?_⟩
    refine CompP.filtD (f := id) (p := fun d => match d with | .int i => decide (i ≥ 0) | _ => false) ?_ ?_ ?_ ?_
    · intro d hd K' hK
      rw [List.mem_singleton] at hd
      subst hd
      with_reducible refine Tr.cmp ?_
      with_reducible refine Ev.var set_eq ?_
      with_reducible refine Ev.int ?_
      exact Co.ge_int hK
    · intro d hd _ K' hK
      rw [List.mem_singleton] at hd
      subst hd
      exact Ev.var set_eq hK
    · intro d hd
      rw [List.mem_singleton] at hd
      subst hd
      exact .int
    rw [List.nil_append, List.map_id, show [D.int (ledI 0 p0 t)] = (([0] : List Nat).map fun x => ledI x p0 t).map D.int from rfl, led_filt]
    have hinit : ([0] : List Nat).filterMap (fun x => led x p0 t) = (led 0 p0 t).toList := by
      simp only [List.filterMap_cons, List.filterMap_nil]; cases led 0 p0 t <;> rfl
    rw [hinit]
    with_reducible refine Ex.cons ?_
    with_reducible refine E1.for (.inr (by kernel_rfl)) ?_
    with_reducible refine Ev.slice ?_
    with_reducible refine Ev.var (d := .list ((p0 :: ps).map D.str)) (by kernel_rfl) ?_
    with_reducible refine EvO.some ?_
    with_reducible refine Ev.int ⟨_, rfl, ?_⟩
    with_reducible refine EvO.none ?_
    refine Sl.list (by rw [List.length_map]; simp [sizeLine]; omega) ?_
    rw [show cut (some (1 : Int)) none ((p0 :: ps).map D.str) = ps.map D.str from cut_from 1 _]
    refine ⟨_, rfl, by rw [List.length_map]; simp [sizeLine]; omega, ?_⟩
    have hend : ∀ (ρ' : Rho) (N : Rho → Prop), ρ' (Str.ofString "ends") = some (.list (nats (ends (p0 :: ps) t esc))) → Ex (Gr w) (k + 2) (fscope 27) ρ' ((fbody 27).drop 3) N K := by
      intro ρ' N e
      conv in (List.drop 3 (fbody 27)) => whnf
      with_reducible refine Ex.cons ?_
      with_reducible refine E1.ret ?_
      exact Ev.var e h
    have loop : ∀ (N : Rho → Prop) (body : List Stmt) (hb : body = forBody ((fbody 27).drop 2)) (l : List (List Nat)) (es : List Nat) (ρ : Rho), (∀ p ∈ l, p.length ≤ 1000) → es.length ≤ 4000 → endsAux t (plcF esc 0 t) es l = ends (p0 :: ps) t esc →
        ρ (Str.ofString "text") = some (.str t) → ρ (Str.ofString "places") = some (.list (nats (plcF esc 0 t))) → ρ (Str.ofString "ends") = some (.list (nats es)) → (∀ ρ' : Rho, ρ' (Str.ofString "ends") = some (.list (nats (ends (p0 :: ps) t esc))) → N ρ') →
        Lo (Gr w) (k + 2) (fscope 27) (Str.ofString "piece") body N K (l.map D.str) ρ := by
      intro N body hb l
      induction l with
      | nil => intro es ρ _ _ he _ _ h3 hN; exact hN ρ (by rw [h3, ← he]; rfl)
      | cons p l ih =>
        intro es ρ hpl hes he h1 h2 h3 hN
        show Ex (Gr w) (k + 2) (fscope 27) (set ρ (Str.ofString "piece") (.str p)) body (fun ρ' => Lo (Gr w) (k + 2) (fscope 27) (Str.ofString "piece") body N K (l.map D.str) ρ') K
        have e1 := (set_ne (ρ := ρ) (x := Str.ofString "piece") (y := Str.ofString "text") (d := .str p) (by decide +kernel)).trans h1
        have e2 := (set_ne (ρ := ρ) (x := Str.ofString "piece") (y := Str.ofString "places") (d := .str p) (by decide +kernel)).trans h2
        have e3 := (set_ne (ρ := ρ) (x := Str.ofString "piece") (y := Str.ofString "ends") (d := .str p) (by decide +kernel)).trans h3
        have e4 : set ρ (Str.ofString "piece") (.str p) (Str.ofString "piece") = some (.str p) := set_eq
        generalize set ρ (Str.ofString "piece") (.str p) = ρ1 at *
        have ihx := fun es' ρ' a b c d e => ih es' ρ' (fun q hq => hpl q (List.mem_cons_of_mem _ hq)) a b c d e hN
        rw [hb] at ihx ⊢
        unfold endsAux at he
        conv => arg 5; whnf
        with_reducible refine Ex.cons ?_
        with_reducible refine E1.iteS ?_
        with_reducible refine Tr.cmp ?_
        with_reducible refine Ev.var e3 ?_
        with_reducible refine Ev.list ?_
        with_reducible refine EvL.nil ⟨by decide, ?_⟩
        unfold nats
        refine Co.eq_nil ?_
        cases hm : es.min? with
        | none =>
          rw [hm] at he
          rw [List.min?_eq_none_iff] at hm
          subst hm
          rw [if_pos (by rfl)]
          with_reducible refine Ex.cons ?_
          with_reducible refine E1.ret ?_
          with_reducible refine Ev.list ?_
          with_reducible refine EvL.nil ⟨by decide, ?_⟩
          rw [← he] at h
          exact h
        | some m =>
          rw [hm] at he
          dsimp only at he
          have hne : es ≠ [] := fun e => by subst e; cases hm
          have hmem := List.min?_mem hm
          rw [if_neg (by cases es with | nil => exact absurd rfl hne | cons _ _ => simp)]
          with_reducible refine Ex.nil ?_
          with_reducible refine Ex.cons ?_
          with_reducible refine E1.assign (.inr (by kernel_rfl)) ?_
          with_reducible refine Ev.callb g_min (by kernel_rfl) ?_
          with_reducible refine EvL.one ?_
          with_reducible refine Ev.var e3 ?_
          refine Ca.min (min_cast hm) ?_
          have a1 := (set_ne (ρ := ρ1) (x := Str.ofString "least") (y := Str.ofString "text") (d := .int m) (by decide +kernel)).trans e1
          have a2 := (set_ne (ρ := ρ1) (x := Str.ofString "least") (y := Str.ofString "places") (d := .int m) (by decide +kernel)).trans e2
          have a4 := (set_ne (ρ := ρ1) (x := Str.ofString "least") (y := Str.ofString "piece") (d := .int m) (by decide +kernel)).trans e4
          have a5 : set ρ1 (Str.ofString "least") (.int m) (Str.ofString "least") = some (.int m) := set_eq
          generalize set ρ1 (Str.ofString "least") (.int m) = ρ2 at *
          with_reducible refine Ex.cons ?_
          with_reducible refine E1.assignComp (by kernel_rfl) (freeOk_of [] (by kernel_rfl) (fun y hy => absurd hy List.not_mem_nil)) (by decide +kernel) (by kernel_rfl) (by decide +kernel) (by kernel_rfl) ?_ ?hsw1
          case hsw1 => intro env he; cases env; dsimp only at he; subst he; kernel_rfl
          with_reducible refine Ev.comp (freeOk_of [Str.ofString "piece", Str.ofString "text", Str.ofString "least"] (by kernel_rfl) ?_) (by decide +kernel) (by kernel_rfl) (by decide +kernel) (by kernel_rfl) ?_
          · intro y hy
            simp only [List.mem_cons, List.not_mem_nil, or_false] at hy
            rcases hy with rfl | rfl | rfl
            · rw [a4]; rfl
            · rw [a1]; rfl
            · rw [a5]; rfl
          with_reducible refine Ev.var a2 ⟨_, rfl, by rw [nats_len]; have := plcF_len esc t 0; simp only [sizeLine]; omega, ?_⟩
          refine CompP.filtD (f := fun d => match d with | .int i => .int (ledI i.toNat p t) | d => d) (p := fun d => match d with | .int i => decide (i ≥ (m : Int)) | _ => false) ?_ ?_ ?_ ?_
          · intro d hd K' hK
            obtain ⟨n, hn, rfl⟩ := int_of_nats hd
            with_reducible refine Tr.cmp ?_
            with_reducible refine Ev.var set_eq ?_
            with_reducible refine Ev.var ((set_ne (by decide +kernel)).trans ((inner_get (by kernel_rfl)).trans a5)) ?_
            exact Co.ge_int hK
          · intro d hd _ K' hK
            obtain ⟨n, hn, rfl⟩ := int_of_nats hd
            have hq := plcF_mem hn
            with_reducible refine Ev.calld g_lawled (by kernel_rfl) (fun h x => ⟨_, _, at_flawled x, rfl⟩) ?_
            with_reducible refine EvL.three ?_
            with_reducible refine Ev.var set_eq ?_
            with_reducible refine Ev.var ((set_ne (by decide +kernel)).trans ((inner_get (by kernel_rfl)).trans a4)) ?_
            with_reducible refine Ev.var ((set_ne (by decide +kernel)).trans ((inner_get (by kernel_rfl)).trans a1)) ?_
            refine k_led (hpl p (List.mem_cons_self ..)) hl (by omega) (by omega) hc ?_
            exact hK
          · intro d hd
            obtain ⟨n, hn, rfl⟩ := int_of_nats hd
            exact .int
          have hle : ((plcF esc 0 t).filter (fun x => decide (m ≤ x))).length ≤ 3 * t.length + 1 := Nat.le_trans (List.length_filter_le ..) (plcF_len esc t 0)
          generalize hF : (plcF esc 0 t).filter (fun x => decide (m ≤ x)) = F at *
          have hmap : ((nats (plcF esc 0 t)).filter (fun d => match d with | .int i => decide (i ≥ (m : Int)) | _ => false)).map (fun d => match d with | .int i => .int (ledI i.toNat p t) | d => d) = (F.map fun x => ledI x p t).map D.int := by
            rw [nats_filter, hF]
            unfold nats
            rw [List.map_map, List.map_map, List.map_map]
            rfl
          rw [List.nil_append, hmap]
          refine ⟨_, rfl, by rw [List.length_map, List.length_map]; simp only [sizeLine]; omega, ?_⟩
          refine CompP.filtD (f := id) (p := fun d => match d with | .int i => decide (i ≥ 0) | _ => false) ?_ ?_ ?_ ?_
          · intro d hd K' hK
            obtain ⟨n, hn, rfl⟩ := List.mem_map.mp hd
            with_reducible refine Tr.cmp ?_
            with_reducible refine Ev.var set_eq ?_
            with_reducible refine Ev.int ?_
            exact Co.ge_int hK
          · intro d hd _ K' hK
            exact Ev.var set_eq hK
          · intro d hd
            obtain ⟨n, hn, rfl⟩ := List.mem_map.mp hd
            exact .int
          rw [List.nil_append, List.map_id, led_filt]
          with_reducible refine Ex.nil ?_
          refine ihx (F.filterMap fun x => led x p t) _ (Nat.le_trans (List.length_filterMap_le ..) (by omega)) he ((set_ne (by decide +kernel)).trans a1) ((set_ne (by decide +kernel)).trans a2) set_eq
    refine loop _ _ (by kernel_rfl) ps _ _ (fun p hp' => hp p (List.mem_cons_of_mem _ hp')) ?_ rfl ?_ ?_ set_eq ?_
    · cases led 0 p0 t <;> simp
    · kernel_rfl
    · kernel_rfl
    · intro ρ' e
      exact hend ρ' _ e
end Mine
end
section
open PySem PySem.W PyProof.Rows
set_option Elab.async false
set_option maxRecDepth 100000
set_option maxHeartbeats 4000000
set_option linter.unusedVariables false
namespace Mine
theorem sl_splitlines : Slot "str" (Str.ofString "splitlines") "str.splitlines" := F.slot_str_splitlines
theorem k_body0 {w : World} {k : Nat} {K : D → Prop} (h : K (.str [])) : Ca (Gr w) (k + 1) (.ref 65) [.str []] K := by
  refine Ca.def (o := fobj 21 m1 (.ref 58) 64) (fd := fdat 21 m1 (.ref 58) 64) (body := fbody 21) (names := [Str.ofString "body", Str.ofString "maxlinelen", Str.ofString "eol"]) (fun h x => at_fbodyencode x) rfl (fun h x => cd_fbodyencode x) rfl rfl rfl rfl (es := [.str [], .int 76, .str [10]]) ?_ rfl ?_ ?_ ?_ ?_ ?_ ?_
  · intro s vs hW r
    obtain ⟨v0, rfl, r0⟩ := RepAll.inv1 r
    refine ⟨[v0, .int 76 1769, .str (Str.ofString "
") 205], .cons r0 (.cons .int (.cons (by rw [nl_eq]; exact .str) .nil)), ?_⟩; exact BindsTo.of_defaults (T := 58) rfl (at_def58 hW) rfl rfl (by kernel_rfl)
  · decide +kernel
  · show (fscope 21).kind = _; kernel_rfl
  · show (fscope 21).isCoroutine = _; kernel_rfl
  · show (fscope 21).isGenerator = _; kernel_rfl
  · intro n hn
    have := mem_kinds (sc := fscope 21) (by kernel_rfl) hn; exact this
  · show Ex (Gr w) k (fscope 21) _ (fbody 21) _ _
    conv in (fbody 21) => whnf
    with_reducible refine Ex.cons ?_
    with_reducible refine E1.iteS ?_
    with_reducible refine Tr.cmp ?_
    with_reducible refine Ev.var (d := .int 76) (by kernel_rfl) ?_
    with_reducible refine Ev.int ?_
    with_reducible refine Co.lt_int ?_
    rw [if_neg (by decide)]
    with_reducible refine Ex.nil ?_
    with_reducible refine Ex.cons ?_
    with_reducible refine E1.iteS ?_
    with_reducible refine Tr.not ?_
    with_reducible refine Tr.plain ?_
    with_reducible refine Ev.var (d := .str []) (by kernel_rfl) ?_
    refine Th.str (by decide) ?_
    rw [if_pos (by rfl)]
    with_reducible refine Ex.cons ?_
    with_reducible refine E1.ret ?_
    exact Ev.var (d := .str []) (by kernel_rfl) h
theorem cut_0m1 {α : Type} (l : List α) : cut (some (0 : Int)) (some (-1)) l = l.dropLast := by
  unfold cut
  rw [show lowI l.length (some (0 : Int)) = 0 by unfold lowI; simp only; omega, List.drop_zero, Nat.sub_zero, List.dropLast_eq_take]
  congr 1
  unfold highI; simp only; omega
theorem k_body {w : World} {k : Nat} {t P : List Nat} {c : Nat} (ht : ∀ c ∈ t, c < 256) (hl : t.length ≤ 1000) (hB : t.flatMap bdyT = P ++ [c]) (hlen : (P ++ [c]).length ≤ 74) (h9 : c ≠ 9) (h10 : c ≠ 10) (h13 : c ≠ 13) (hcut : lineCuts (S (P ++ [c])) = [(0, (P ++ [c]).length)]) {K : D → Prop}
    (h : K (.str (if c = 32 then P ++ hexT 32 else P ++ [c]))) : Ca (Gr w) (k + 2) (.ref 65) [.str t] K := by
  refine Ca.def (o := fobj 21 m1 (.ref 58) 64) (fd := fdat 21 m1 (.ref 58) 64) (body := fbody 21) (names := [Str.ofString "body", Str.ofString "maxlinelen", Str.ofString "eol"]) (fun h x => at_fbodyencode x) rfl (fun h x => cd_fbodyencode x) rfl rfl rfl rfl (es := [.str t, .int 76, .str [10]]) ?_ rfl ?_ ?_ ?_ ?_ ?_ ?_
  · intro s vs hW r
    obtain ⟨v0, rfl, r0⟩ := RepAll.inv1 r
    refine ⟨[v0, .int 76 1769, .str (Str.ofString "
") 205], .cons r0 (.cons .int (.cons (by rw [nl_eq]; exact .str) .nil)), ?_⟩; exact BindsTo.of_defaults (T := 58) rfl (at_def58 hW) rfl rfl (by kernel_rfl)
  · decide +kernel
  · show (fscope 21).kind = _; kernel_rfl
  · show (fscope 21).isCoroutine = _; kernel_rfl
  · show (fscope 21).isGenerator = _; kernel_rfl
  · intro n hn
    have := mem_kinds (sc := fscope 21) (by kernel_rfl) hn; exact this
  · show Ex (Gr w) (k + 1) (fscope 21) _ (fbody 21) _ _
    have hne : t ≠ [] := fun e => by subst e; simp at hB
    conv in (fbody 21) => whnf
    with_reducible refine Ex.cons ?_
    with_reducible refine E1.iteS ?_
    with_reducible refine Tr.cmp ?_
    with_reducible refine Ev.var (d := .int 76) (by kernel_rfl) ?_
    with_reducible refine Ev.int ?_
    with_reducible refine Co.lt_int ?_
    rw [if_neg (by decide)]
    with_reducible refine Ex.nil ?_
    with_reducible refine Ex.cons ?_
    with_reducible refine E1.iteS ?_
    with_reducible refine Tr.not ?_
    with_reducible refine Tr.plain ?_
    with_reducible refine Ev.var (d := .str t) (by kernel_rfl) ?_
    refine Th.str (by simp only [sizeLine]; omega) ?_
    rw [if_neg (by cases t with | nil => exact absurd rfl hne | cons _ _ => simp)]
    with_reducible refine Ex.nil ?_
    with_reducible refine Ex.cons ?_
    with_reducible refine E1.assign (.inl (by kernel_rfl)) ?_
    with_reducible refine Ev.meths sl_translate F.type_str_translate ?_
    with_reducible refine Ev.var (d := .str t) (by kernel_rfl) ⟨_, rfl, ?_⟩
    with_reducible refine EvL.one ?_
    with_reducible refine Ev.glob g_bmap (by kernel_rfl) ?_
    refine Ca.translate (fun c hc => ⟨ht c hc, by rw [tab_length]; exact ht c hc, by rw [tab_getD (ht c hc)]; exact bdyT_len c⟩) (by simp only [sizeLine]; omega) ?_
    rw [flat_tab ht, hB]
    generalize hBB : P ++ [c] = B at *
    have hpos : 0 < B.length := by rw [← hBB]; simp
    have hget : B[((-1 : Int) + (B.length : Int)).toNat]? = some c := by
      rw [show ((-1 : Int) + (B.length : Int)).toNat = P.length by rw [← hBB]; simp; omega, ← hBB]; simp
    with_reducible refine Ex.cons ?_
    with_reducible refine E1.assign (.inl (by kernel_rfl)) ?_
    with_reducible refine Ev.bin ?_
    with_reducible refine Ev.strL (l := [61]) (by kernel_rfl) ?_
    with_reducible refine Ev.var (d := .str [10]) (by kernel_rfl) ?_
    refine Bo.add_str (by decide) ?_
    with_reducible refine Ex.cons ?_
    with_reducible refine E1.assign (.inl (by kernel_rfl)) ?_
    with_reducible refine Ev.bin ?_
    with_reducible refine Ev.var (d := .int 76) (by kernel_rfl) ?_
    with_reducible refine Ev.int ?_
    with_reducible refine Bo.sub_int ?_
    have hflat : Flat (set (set (set (fun y => (([Str.ofString "body", Str.ofString "maxlinelen", Str.ofString "eol"] : List Str).zip [D.str t, .int 76, .str [10]]).lookup y) (Str.ofString "body") (.str B)) (Str.ofString "soft_break") (.str ([61] ++ [10]))) (Str.ofString "maxlinelen1") (.int (76 - 1))) := by
      refine ((Flat.set (Flat.zip ?_) .str).set .str).set .int
      intro d hd; simp only [List.mem_cons, List.not_mem_nil, or_false] at hd; rcases hd with rfl | rfl | rfl
      · exact .str
      · exact .int
      · exact .str
    have h1 : (set (set (set (fun y => (([Str.ofString "body", Str.ofString "maxlinelen", Str.ofString "eol"] : List Str).zip [D.str t, .int 76, .str [10]]).lookup y) (Str.ofString "body") (.str B)) (Str.ofString "soft_break") (.str ([61] ++ [10]))) (Str.ofString "maxlinelen1") (.int (76 - 1))) (Str.ofString "body") = some (.str B) := by kernel_rfl
    have h2 : (set (set (set (fun y => (([Str.ofString "body", Str.ofString "maxlinelen", Str.ofString "eol"] : List Str).zip [D.str t, .int 76, .str [10]]).lookup y) (Str.ofString "body") (.str B)) (Str.ofString "soft_break") (.str ([61] ++ [10]))) (Str.ofString "maxlinelen1") (.int (76 - 1))) (Str.ofString "maxlinelen") = some (.int 76) := by kernel_rfl
    have h3 : (set (set (set (fun y => (([Str.ofString "body", Str.ofString "maxlinelen", Str.ofString "eol"] : List Str).zip [D.str t, .int 76, .str [10]]).lookup y) (Str.ofString "body") (.str B)) (Str.ofString "soft_break") (.str ([61] ++ [10]))) (Str.ofString "maxlinelen1") (.int (76 - 1))) (Str.ofString "eol") = some (.str [10]) := by kernel_rfl
    generalize (set (set (set (fun y => (([Str.ofString "body", Str.ofString "maxlinelen", Str.ofString "eol"] : List Str).zip [D.str t, .int 76, .str [10]]).lookup y) (Str.ofString "body") (.str B)) (Str.ofString "soft_break") (.str ([61] ++ [10]))) (Str.ofString "maxlinelen1") (.int (76 - 1))) = ρ0 at *
    with_reducible refine Ex.make (by kernel_rfl) ?_
    with_reducible refine EvF.list ?_
    with_reducible refine EvL.nil ⟨by decide, [], rfl, (fun d hd => absurd hd List.not_mem_nil), fun a => ?_⟩
    with_reducible refine Exo.bind set_eq (by kernel_rfl) (fun cc => ?_)
    have g1 := (set_ne (ρ := set ρ0 (Str.ofString "encoded_body") (.raw (.ref a))) (x := Str.ofString "append") (y := Str.ofString "body") (d := .raw (.ref cc)) (by decide +kernel)).trans ((set_ne (by decide +kernel)).trans h1)
    have g2 := (set_ne (ρ := set ρ0 (Str.ofString "encoded_body") (.raw (.ref a))) (x := Str.ofString "append") (y := Str.ofString "maxlinelen") (d := .raw (.ref cc)) (by decide +kernel)).trans ((set_ne (by decide +kernel)).trans h2)
    have g3 := (set_ne (ρ := set ρ0 (Str.ofString "encoded_body") (.raw (.ref a))) (x := Str.ofString "append") (y := Str.ofString "eol") (d := .raw (.ref cc)) (by decide +kernel)).trans ((set_ne (by decide +kernel)).trans h3)
    have g4 : set (set ρ0 (Str.ofString "encoded_body") (.raw (.ref a))) (Str.ofString "append") (.raw (.ref cc)) (Str.ofString "encoded_body") = some (.raw (.ref a)) := (set_ne (by decide +kernel)).trans set_eq
    have g5 : set (set ρ0 (Str.ofString "encoded_body") (.raw (.ref a))) (Str.ofString "append") (.raw (.ref cc)) (Str.ofString "append") = some (.raw (.ref cc)) := set_eq
    have g6 := (hflat.set (x := Str.ofString "encoded_body") (.raw (v := .ref a))).set (x := Str.ofString "append") (.raw (v := .ref cc))
    generalize set (set ρ0 (Str.ofString "encoded_body") (.raw (.ref a))) (Str.ofString "append") (.raw (.ref cc)) = ρ1 at *
    have hend : ∀ (ρ' : Rho) (N : Rho → List D → Prop) (line : List Nat), line.length ≤ 1000 → ρ' (Str.ofString "body") = some (.str B) → ρ' (Str.ofString "eol") = some (.str [10]) → ρ' (Str.ofString "encoded_body") = some (.raw (.ref a)) → K (.str line) → Exo (Gr w) (k + 1) (fscope 21) a (some cc) ρ' [.str line] ((fbody 21).drop 8) N K := by
      intro ρ' N line hll e1 e2 e3 e4
      conv in (List.drop 8 (fbody 21)) => whnf
      with_reducible refine Exo.cons ?_
      with_reducible refine E1o.iteS ?_
      with_reducible refine Tr.cmp ?_
      with_reducible refine Ev.item ?_
      with_reducible refine Ev.var e1 ?_
      with_reducible refine Ev.neg ?_
      refine It.strNeg (by decide) (by omega) hget (by simp only [sizeLine]; omega) ?_
      with_reducible refine Ev.glob g_crlf (by kernel_rfl) ?_
      refine Co.in_str ?_
      rw [contains_one, if_neg (by simp [h10, h13])]
      with_reducible refine Exo.nil ?_
      with_reducible refine Exo.leave e3 ?_
      with_reducible refine Ex.cons ?_
      with_reducible refine E1.ret ?_
      with_reducible refine Ev.meths sl_join F.type_str_join ?_
      with_reducible refine Ev.var (d := .str [10]) ((set_ne (by decide +kernel)).trans e2) ⟨_, rfl, ?_⟩
      with_reducible refine EvL.one ?_
      with_reducible refine Ev.var (d := .list [.str line]) set_eq ?_
      refine Ca.join (ts := [line]) (joinOk_of (by simp) (by simp; omega)) ?_
      rw [jn_cps]
      simpa using e4
    with_reducible refine Exo.cons ?_
    with_reducible refine E1o.for (.inl (by kernel_rfl)) ?_
    with_reducible refine EvF.meths0 sl_splitlines F.type_str_splitlines ?_
    with_reducible refine Ev.var g1 ⟨_, rfl, ?_⟩
    refine CaF.splitlines (by simp only [sizeLine]; omega) hcut ⟨_, rfl, by show 1 ≤ sizeLine; decide, ?_, ?_⟩
    · intro d hd
      rw [List.mem_singleton] at hd
      subst hd; exact .str
    unfold Loo Loo
    have a1 := (set_ne (ρ := ρ1) (x := Str.ofString "line") (y := Str.ofString "body") (d := .str B) (by decide +kernel)).trans g1
    have a2 := (set_ne (ρ := ρ1) (x := Str.ofString "line") (y := Str.ofString "maxlinelen") (d := .str B) (by decide +kernel)).trans g2
    have a3 := (set_ne (ρ := ρ1) (x := Str.ofString "line") (y := Str.ofString "eol") (d := .str B) (by decide +kernel)).trans g3
    have a4 := (set_ne (ρ := ρ1) (x := Str.ofString "line") (y := Str.ofString "encoded_body") (d := .str B) (by decide +kernel)).trans g4
    have a5 := (set_ne (ρ := ρ1) (x := Str.ofString "line") (y := Str.ofString "append") (d := .str B) (by decide +kernel)).trans g5
    have a6 := g6.set (x := Str.ofString "line") (.str (s := B))
    have a7 : set ρ1 (Str.ofString "line") (.str B) (Str.ofString "line") = some (.str B) := set_eq
    generalize set ρ1 (Str.ofString "line") (.str B) = ρ2 at *
    with_reducible refine Exo.cons ?_
    with_reducible refine E1o.lift ?_
    with_reducible refine E1.assign (.inl (by kernel_rfl)) ?_
    with_reducible refine Ev.int ?_
    have b1 := (set_ne (ρ := ρ2) (x := Str.ofString "start") (y := Str.ofString "body") (d := .int 0) (by decide +kernel)).trans a1
    have b2 := (set_ne (ρ := ρ2) (x := Str.ofString "start") (y := Str.ofString "maxlinelen") (d := .int 0) (by decide +kernel)).trans a2
    have b3 := (set_ne (ρ := ρ2) (x := Str.ofString "start") (y := Str.ofString "eol") (d := .int 0) (by decide +kernel)).trans a3
    have b4 := (set_ne (ρ := ρ2) (x := Str.ofString "start") (y := Str.ofString "encoded_body") (d := .int 0) (by decide +kernel)).trans a4
    have b5 := (set_ne (ρ := ρ2) (x := Str.ofString "start") (y := Str.ofString "append") (d := .int 0) (by decide +kernel)).trans a5
    have b6 := a6.set (x := Str.ofString "start") (.int (i := 0))
    have b7 := (set_ne (ρ := ρ2) (x := Str.ofString "start") (y := Str.ofString "line") (d := .int 0) (by decide +kernel)).trans a7
    have b8 : set ρ2 (Str.ofString "start") (.int 0) (Str.ofString "start") = some (.int 0) := set_eq
    generalize set ρ2 (Str.ofString "start") (.int 0) = ρ3 at *
    with_reducible refine Exo.cons ?_
    with_reducible refine E1o.lift ?_
    with_reducible refine E1.assign (.inl (by kernel_rfl)) ?_
    with_reducible refine Ev.bin ?_
    with_reducible refine Ev.bin ?_
    with_reducible refine Ev.callb g_len (by kernel_rfl) ?_
    with_reducible refine EvL.one ?_
    with_reducible refine Ev.var b7 ?_
    refine Ca.len_str (by simp only [sizeLine]; omega) ?_
    with_reducible refine Ev.int ?_
    with_reducible refine Bo.sub_int ?_
    with_reducible refine Ev.var b2 ?_
    with_reducible refine Bo.sub_int ?_
    generalize hls : (B.length : Int) - 1 - 76 = ls
    have c1 := (set_ne (ρ := ρ3) (x := Str.ofString "laststart") (y := Str.ofString "body") (d := .int ls) (by decide +kernel)).trans b1
    have c3 := (set_ne (ρ := ρ3) (x := Str.ofString "laststart") (y := Str.ofString "eol") (d := .int ls) (by decide +kernel)).trans b3
    have c4 := (set_ne (ρ := ρ3) (x := Str.ofString "laststart") (y := Str.ofString "encoded_body") (d := .int ls) (by decide +kernel)).trans b4
    have c5 := (set_ne (ρ := ρ3) (x := Str.ofString "laststart") (y := Str.ofString "append") (d := .int ls) (by decide +kernel)).trans b5
    have c6 := b6.set (x := Str.ofString "laststart") (.int (i := ls))
    have c7 := (set_ne (ρ := ρ3) (x := Str.ofString "laststart") (y := Str.ofString "line") (d := .int ls) (by decide +kernel)).trans b7
    have c8 := (set_ne (ρ := ρ3) (x := Str.ofString "laststart") (y := Str.ofString "start") (d := .int ls) (by decide +kernel)).trans b8
    have c9 : set ρ3 (Str.ofString "laststart") (.int ls) (Str.ofString "laststart") = some (.int ls) := set_eq
    generalize set ρ3 (Str.ofString "laststart") (.int ls) = ρ4 at *
    with_reducible refine Exo.cons ?_
    with_reducible refine E1o.lift ?_
    with_reducible refine E1.while0 ?_
    with_reducible refine Tr.cmp ?_
    with_reducible refine Ev.var c8 ?_
    with_reducible refine Ev.var c9 ?_
    refine Co.le_int ⟨decide_eq_false (by omega), ?_⟩
    with_reducible refine Exo.cons ?_
    with_reducible refine E1o.iteS ?_
    with_reducible refine Tr.and2 ?_
    with_reducible refine Tr.plain ?_
    with_reducible refine Ev.var c7 ?_
    refine Th.str (by simp only [sizeLine]; omega) ?_
    rw [if_pos (by cases B with | nil => simp at hpos | cons _ _ => rfl)]
    with_reducible refine Tr.cmp ?_
    with_reducible refine Ev.item ?_
    with_reducible refine Ev.var c7 ?_
    with_reducible refine Ev.neg ?_
    refine It.strNeg (by decide) (by omega) hget (by simp only [sizeLine]; omega) ?_
    with_reducible refine Ev.strL (l := [32, 9]) (by kernel_rfl) ?_
    refine Co.in_str ?_
    rw [contains_one]
    by_cases e : c = 32
    · rw [if_pos (by simp [e])]
      rw [if_pos e] at h
      with_reducible refine Exo.cons ?_
      with_reducible refine E1o.lift ?_
      with_reducible refine E1.assign (.inl (by kernel_rfl)) ?_
      with_reducible refine Ev.bin ?_
      with_reducible refine Ev.var c8 ?_
      with_reducible refine Ev.var c9 ?_
      refine Bo.sub_int ?_
      generalize hrm : (0 : Int) - ls = rm
      have d1 := (set_ne (ρ := ρ4) (x := Str.ofString "room") (y := Str.ofString "body") (d := .int rm) (by decide +kernel)).trans c1
      have d3 := (set_ne (ρ := ρ4) (x := Str.ofString "room") (y := Str.ofString "eol") (d := .int rm) (by decide +kernel)).trans c3
      have d4 := (set_ne (ρ := ρ4) (x := Str.ofString "room") (y := Str.ofString "encoded_body") (d := .int rm) (by decide +kernel)).trans c4
      have d5 := (set_ne (ρ := ρ4) (x := Str.ofString "room") (y := Str.ofString "append") (d := .int rm) (by decide +kernel)).trans c5
      have d6 := c6.set (x := Str.ofString "room") (.int (i := rm))
      have d7 := (set_ne (ρ := ρ4) (x := Str.ofString "room") (y := Str.ofString "line") (d := .int rm) (by decide +kernel)).trans c7
      have d8 := (set_ne (ρ := ρ4) (x := Str.ofString "room") (y := Str.ofString "start") (d := .int rm) (by decide +kernel)).trans c8
      have d9 : set ρ4 (Str.ofString "room") (.int rm) (Str.ofString "room") = some (.int rm) := set_eq
      generalize set ρ4 (Str.ofString "room") (.int rm) = ρ5 at *
      with_reducible refine Exo.cons ?_
      with_reducible refine E1o.iteS ?_
      with_reducible refine Tr.cmp ?_
      with_reducible refine Ev.var d9 ?_
      with_reducible refine Ev.int ?_
      with_reducible refine Co.ge_int ?_
      rw [if_pos (by simp; omega)]
      with_reducible refine Exo.cons ?_
      with_reducible refine E1o.lift ?_
      with_reducible refine E1.assign (.inl (by kernel_rfl)) ?_
      with_reducible refine Ev.calld g_quote (by kernel_rfl) (fun h x => ⟨_, _, at_fquote x, rfl⟩) ?_
      with_reducible refine EvL.one ?_
      with_reducible refine Ev.item ?_
      with_reducible refine Ev.var d7 ?_
      with_reducible refine Ev.neg ?_
      refine It.strNeg (by decide) (by omega) hget (by simp only [sizeLine]; omega) ?_
      refine k_quote (by omega) ?_
      have e1 := (set_ne (ρ := ρ5) (x := Str.ofString "q") (y := Str.ofString "body") (d := .str (hexT c)) (by decide +kernel)).trans d1
      have e3 := (set_ne (ρ := ρ5) (x := Str.ofString "q") (y := Str.ofString "eol") (d := .str (hexT c)) (by decide +kernel)).trans d3
      have e4 := (set_ne (ρ := ρ5) (x := Str.ofString "q") (y := Str.ofString "encoded_body") (d := .str (hexT c)) (by decide +kernel)).trans d4
      have e5 := (set_ne (ρ := ρ5) (x := Str.ofString "q") (y := Str.ofString "append") (d := .str (hexT c)) (by decide +kernel)).trans d5
      have e6 := d6.set (x := Str.ofString "q") (.str (s := hexT c))
      have e7 := (set_ne (ρ := ρ5) (x := Str.ofString "q") (y := Str.ofString "line") (d := .str (hexT c)) (by decide +kernel)).trans d7
      have e8 := (set_ne (ρ := ρ5) (x := Str.ofString "q") (y := Str.ofString "start") (d := .str (hexT c)) (by decide +kernel)).trans d8
      have e9 : set ρ5 (Str.ofString "q") (.str (hexT c)) (Str.ofString "q") = some (.str (hexT c)) := set_eq
      generalize set ρ5 (Str.ofString "q") (.str (hexT c)) = ρ6 at *
      with_reducible refine Exo.nil ?_
      with_reducible refine Exo.cons ?_
      with_reducible refine E1o.appendB e5 e6 (by decide) ?_
      with_reducible refine Ev.bin ?_
      with_reducible refine Ev.slice ?_
      with_reducible refine Ev.var e7 ?_
      with_reducible refine EvO.some ?_
      with_reducible refine Ev.var e8 ⟨_, rfl, ?_⟩
      with_reducible refine EvO.some ?_
      with_reducible refine Ev.neg ⟨_, rfl, ?_⟩
      refine Sl.str (by simp only [sizeLine]; omega) ?_
      rw [cut_0m1, show B.dropLast = P by rw [← hBB]; simp]
      have hPl : P.length ≤ 74 := by have := congrArg List.length hBB; simp at this; omega
      have hh : (hexT c).length = 3 := rfl
      with_reducible refine Ev.var e9 ?_
      refine Bo.add_str (by simp only [sizeLine]; omega) ⟨.str, ?_⟩
      with_reducible refine Exo.nil ?_
      with_reducible refine Exo.nil ?_
      rw [List.nil_append]
      exact hend _ _ _ (by rw [List.length_append]; omega) e1 e3 e4 (by rw [e]; exact h)
    · rw [if_neg (by simp [e, h9])]
      rw [if_neg e] at h
      with_reducible refine Exo.cons ?_
      with_reducible refine E1o.appendB c5 c6 (by decide) ?_
      with_reducible refine Ev.slice ?_
      with_reducible refine Ev.var c7 ?_
      with_reducible refine EvO.some ?_
      with_reducible refine Ev.var c8 ⟨_, rfl, ?_⟩
      with_reducible refine EvO.none ?_
      refine Sl.str (by simp only [sizeLine]; omega) ⟨.str, ?_⟩
      rw [show cut (some (0 : Int)) none B = B from cut_from 0 B]
      with_reducible refine Exo.nil ?_
      with_reducible refine Exo.nil ?_
      rw [List.nil_append]
      exact hend _ _ _ (by omega) c1 c3 c4 h
end Mine
end
section
open PySem PySem.W PyProof.Rows
set_option Elab.async false
set_option maxRecDepth 100000
set_option maxHeartbeats 4000000
set_option linter.unusedVariables false
namespace Mine
theorem sl_startswith : Slot "str" (Str.ofString "startswith") "str.startswith" := F.slot_str_startswith
theorem sl_endswith : Slot "str" (Str.ofString "endswith") "str.endswith" := F.slot_str_endswith
theorem sl_find : Slot "str" (Str.ofString "find") "str.find" := F.slot_str_find
theorem sl_split : Slot "str" (Str.ofString "split") "str.split" := F.slot_str_split
def greedyMid (ws1 : List (List Nat)) (got : List Nat) (start : Nat) : Bool :=
  let wn := ws1.getLastD []
  if wn ≠ [] ∧ wn.isSuffixOf got = false then false else
  let ws2 := if wn ≠ [] then ws1.dropLast else ws1
  let stop := got.length - wn.length
  if start > stop then false else greedyLoop got stop start ws2
theorem greedy_mid (w0 : List Nat) (ws : List (List Nat)) (got : List Nat) : greedy (w0 :: ws) got = if w0 ≠ [] ∧ w0.isPrefixOf got = false then false else greedyMid (if w0 ≠ [] then ws else w0 :: ws) got w0.length := rfl
theorem EvL.four {G : Gx} {k : Nat} {sc : Scope} {ρ : Rho} {e f g i : Expr} {K : List D → Prop} (h : Ev G k sc ρ e fun d => Ev G k sc ρ f fun d' => Ev G k sc ρ g fun d'' => Ev G k sc ρ i fun d3 => K [d, d', d'', d3]) (he : ∀ env, starEach [e, f, g, i] env = (false, eval e env) :: starEach [f, g, i] env := by intro _; kernel_rfl)
    (he' : ∀ env, starEach [f, g, i] env = (false, eval f env) :: starEach [g, i] env := by intro _; kernel_rfl) (he'' : ∀ env, starEach [g, i] env = (false, eval g env) :: starEach [i] env := by intro _; kernel_rfl) (he3 : ∀ env, starEach [i] env = (false, eval i env) :: starEach [] env := by intro _; kernel_rfl) : EvL G k sc ρ [e, f, g, i] K :=
  EvL.cons (fun env => by rw [he', he'', he3]; rfl) (h.mono fun d hd => EvL.three hd he' he'' he3) he
theorem k_match {w : World} {k : Nat} {want got p0 : List Nat} {ps : List (List Nat)} (hw : want.length ≤ 10000) (hg : got.length ≤ 10000) (hT : Tight [46, 46, 46] want (p0 :: ps)) (hpl : ∀ p ∈ p0 :: ps, p.length ≤ 10000) (hps : ps.length ≤ 10000) {K : D → Prop}
    (h : K (.bool (if ps = [] then p0 == got else greedy (p0 :: ps) got))) : Ca (Gr w) (k + 1) (.ref 21) [.str want, .str got] K := by
  refine Ca.def (o := fobj 2 m0 .none 20) (fd := fdat 2 m0 .none 20) (body := fbody 2) (names := [Str.ofString "want", Str.ofString "got"]) (fun h x => at_fellipsismatch x) rfl (fun h x => cd_fellipsismatch x) rfl rfl rfl rfl (es := [.str want, .str got]) ?_ rfl ?_ ?_ ?_ ?_ ?_ ?_
  · intro s vs _ r
    obtain ⟨v0, v1, rfl, r0, r1⟩ := RepAll.inv2 r
    exact ⟨[v0, v1], .cons r0 (.cons r1 .nil), .of_eq (by kernel_rfl)⟩
  · decide +kernel
  · show (fscope 2).kind = _; kernel_rfl
  · show (fscope 2).isCoroutine = _; kernel_rfl
  · show (fscope 2).isGenerator = _; kernel_rfl
  · intro n hn
    have := mem_kinds (sc := fscope 2) (by kernel_rfl) hn; exact this
  · show Ex (Gr w) k (fscope 2) _ (fbody 2) _ _
    have a_F : Flat fun y => (([Str.ofString "want", Str.ofString "got"] : List Str).zip [D.str want, .str got]).lookup y := Flat.zip (by intro d hd; simp only [List.mem_cons, List.not_mem_nil, or_false] at hd; rcases hd with rfl | rfl <;> exact .str)
    have a_want : (fun y => (([Str.ofString "want", Str.ofString "got"] : List Str).zip [D.str want, .str got]).lookup y) (Str.ofString "want") = some (.str want) := by kernel_rfl
    have a_got : (fun y => (([Str.ofString "want", Str.ofString "got"] : List Str).zip [D.str want, .str got]).lookup y) (Str.ofString "got") = some (.str got) := by kernel_rfl
    generalize (fun y => (([Str.ofString "want", Str.ofString "got"] : List Str).zip [D.str want, .str got]).lookup y) = ρ0 at *
    have loop : ∀ (N : Rho → Prop) (hi : Nat) (hhi : hi ≤ got.length) (body : List Stmt) (hb : body = forBody ((fbody 2).drop 9)) (l : List (List Nat)) (lo : Nat) (ρ : Rho), (∀ p ∈ l, p.length ≤ 10000) → K (.bool (greedyLoop got hi lo l)) →
        ρ (Str.ofString "got") = some (.str got) → ρ (Str.ofString "startpos") = some (.int lo) → ρ (Str.ofString "endpos") = some (.int hi) → (∀ ρ' : Rho, K (.bool true) → N ρ') →
        Lo (Gr w) k (fscope 2) (Str.ofString "w") body N K (l.map D.str) ρ := by
      intro N hi hhi body hb l
      induction l with
      | nil => intro lo ρ _ hK _ _ _ hN; exact hN ρ hK
      | cons p l ih =>
        intro lo ρ hpl hK a_got a_startpos a_endpos hN
        show Ex (Gr w) k (fscope 2) (set ρ (Str.ofString "w") (.str p)) body (fun ρ' => Lo (Gr w) k (fscope 2) (Str.ofString "w") body N K (l.map D.str) ρ') K
        have hp := hpl p (List.mem_cons_self ..)
        have b_got := (set_ne (ρ := ρ) (x := Str.ofString "w") (y := Str.ofString "got") (d := .str p) (by decide +kernel)).trans a_got
        have b_startpos := (set_ne (ρ := ρ) (x := Str.ofString "w") (y := Str.ofString "startpos") (d := .str p) (by decide +kernel)).trans a_startpos
        have b_endpos := (set_ne (ρ := ρ) (x := Str.ofString "w") (y := Str.ofString "endpos") (d := .str p) (by decide +kernel)).trans a_endpos
        have b_w : set ρ (Str.ofString "w") (.str p) (Str.ofString "w") = some (.str p) := set_eq
        generalize set ρ (Str.ofString "w") (.str p) = ρ1 at *
        have ihx := fun lo' ρ' a b c d => ih lo' ρ' (fun q hq => hpl q (List.mem_cons_of_mem _ hq)) a b c d hN
        rw [hb] at ihx ⊢
        unfold greedyLoop at hK
        conv => arg 5; whnf
        with_reducible refine Ex.cons ?_
        with_reducible refine E1.assign (.inl (by kernel_rfl)) ?_
        with_reducible refine Ev.meths sl_find F.type_str_find ?_
        with_reducible refine Ev.var b_got ⟨_, rfl, ?_⟩
        with_reducible refine EvL.three ?_
        with_reducible refine Ev.var b_w ?_
        with_reducible refine Ev.var b_startpos ?_
        with_reducible refine Ev.var b_endpos ?_
        refine Ca.findL hhi ?_
        unfold findI
        cases hf : findIn got p lo hi with
        | none =>
          rw [hf] at hK
          dsimp only at hK ⊢
          with_reducible refine Ex.cons ?_
          with_reducible refine E1.iteS ?_
          with_reducible refine Tr.cmp ?_
          with_reducible refine Ev.var set_eq ?_
          with_reducible refine Ev.int ?_
          with_reducible refine Co.lt_int ?_
          rw [if_pos (by decide)]
          with_reducible refine Ex.cons ?_
          with_reducible refine E1.ret ?_
          exact Ev.bool hK
        | some j =>
          rw [hf] at hK
          dsimp only at hK ⊢
          have c_got := (set_ne (ρ := ρ1) (x := Str.ofString "startpos") (y := Str.ofString "got") (d := .int (j : Int)) (by decide +kernel)).trans b_got
          have c_w := (set_ne (ρ := ρ1) (x := Str.ofString "startpos") (y := Str.ofString "w") (d := .int (j : Int)) (by decide +kernel)).trans b_w
          have c_endpos := (set_ne (ρ := ρ1) (x := Str.ofString "startpos") (y := Str.ofString "endpos") (d := .int (j : Int)) (by decide +kernel)).trans b_endpos
          have c_startpos : set ρ1 (Str.ofString "startpos") (.int (j : Int)) (Str.ofString "startpos") = some (.int (j : Int)) := set_eq
          generalize set ρ1 (Str.ofString "startpos") (.int (j : Int)) = ρ2 at *
          with_reducible refine Ex.cons ?_
          with_reducible refine E1.iteS ?_
          with_reducible refine Tr.cmp ?_
          with_reducible refine Ev.var c_startpos ?_
          with_reducible refine Ev.int ?_
          with_reducible refine Co.lt_int ?_
          rw [if_neg (by simp)]
          with_reducible refine Ex.nil ?_
          with_reducible refine Ex.cons ?_
          with_reducible refine E1.aug (a := j) (b := p.length) (r := ((j + p.length : Nat) : Int)) (by kernel_rfl) c_startpos ?_ (.inl ⟨rfl, by omega⟩)
          with_reducible refine Ev.callb g_len (by kernel_rfl) ?_
          with_reducible refine EvL.one ?_
          with_reducible refine Ev.var c_w ?_
          refine Ca.len_str (by simp only [sizeLine]; omega) ⟨rfl, ?_⟩
          with_reducible refine Ex.nil ?_
          exact ihx _ _ hK ((set_ne (by decide +kernel)).trans c_got) set_eq ((set_ne (by decide +kernel)).trans c_endpos)
    have hend : ∀ (a : Addr) (ρ : Rho) (N : Rho → List D → Prop) (ws : List (List Nat)) (lo hi : Nat), hi ≤ got.length → ws.length ≤ 10001 → (∀ p ∈ ws, p.length ≤ 10000) → ρ (Str.ofString "got") = some (.str got) → ρ (Str.ofString "ws") = some (.raw (.ref a)) → ρ (Str.ofString "startpos") = some (.int lo) → ρ (Str.ofString "endpos") = some (.int hi) →
        K (.bool (if lo > hi then false else greedyLoop got hi lo ws)) → Exo (Gr w) k (fscope 2) a none ρ (ws.map D.str) ((fbody 2).drop 8) N K := by
      intro a ρ N ws lo hi hhi hwl hpl a_got a_ws a_startpos a_endpos hK
      conv in (List.drop 8 (fbody 2)) => whnf
      with_reducible refine Exo.leave a_ws ?_
      have b_got := (set_ne (ρ := ρ) (x := Str.ofString "ws") (y := Str.ofString "got") (d := .list (ws.map D.str)) (by decide +kernel)).trans a_got
      have b_startpos := (set_ne (ρ := ρ) (x := Str.ofString "ws") (y := Str.ofString "startpos") (d := .list (ws.map D.str)) (by decide +kernel)).trans a_startpos
      have b_endpos := (set_ne (ρ := ρ) (x := Str.ofString "ws") (y := Str.ofString "endpos") (d := .list (ws.map D.str)) (by decide +kernel)).trans a_endpos
      have b_ws : set ρ (Str.ofString "ws") (.list (ws.map D.str)) (Str.ofString "ws") = some (.list (ws.map D.str)) := set_eq
      generalize set ρ (Str.ofString "ws") (.list (ws.map D.str)) = ρ1 at *
      with_reducible refine Ex.cons ?_
      with_reducible refine E1.iteS ?_
      with_reducible refine Tr.cmp ?_
      with_reducible refine Ev.var b_startpos ?_
      with_reducible refine Ev.var b_endpos ?_
      with_reducible refine Co.gt_int ?_
      by_cases hlt : lo > hi
      · rw [if_pos hlt] at hK
        rw [if_pos (by simpa using hlt)]
        with_reducible refine Ex.cons ?_
        with_reducible refine E1.ret ?_
        exact Ev.bool hK
      · rw [if_neg hlt] at hK
        rw [if_neg (by simpa using hlt)]
        with_reducible refine Ex.nil ?_
        with_reducible refine Ex.cons ?_
        with_reducible refine E1.for (.inl (by kernel_rfl)) ?_
        with_reducible refine Ev.var b_ws ⟨_, rfl, by rw [List.length_map]; simp only [sizeLine]; omega, ?_⟩
        refine loop _ hi hhi _ (by kernel_rfl) ws lo ρ1 hpl hK b_got b_startpos b_endpos ?_
        intro ρ' hK'
        with_reducible refine Ex.cons ?_
        with_reducible refine E1.ret ?_
        exact Ev.bool hK'
    have hmid : ∀ (a : Addr) (ρ : Rho) (N : Rho → List D → Prop) (ws : List (List Nat)) (lo : Nat), ws ≠ [] → ws.length ≤ 10001 → (∀ p ∈ ws, p.length ≤ 10000) → Flat ρ → ρ (Str.ofString "got") = some (.str got) → ρ (Str.ofString "ws") = some (.raw (.ref a)) → ρ (Str.ofString "startpos") = some (.int lo) → ρ (Str.ofString "endpos") = some (.int got.length) →
        K (.bool (greedyMid ws got lo)) → Exo (Gr w) k (fscope 2) a none ρ (ws.map D.str) ((fbody 2).drop 6) N K := by
      intro a ρ N ws lo hne hwl hpl a_F a_got a_ws a_startpos a_endpos hK
      have hpos : 0 < ws.length := List.length_pos_iff.mpr hne
      have hget : (ws.map D.str)[((-1 : Int) + ((ws.map D.str).length : Int)).toNat]? = some (.str (ws.getLastD [])) := by
        rw [List.length_map, show ((-1 : Int) + (ws.length : Int)).toNat = ws.length - 1 by omega, List.getElem?_map, ← List.getLast?_eq_getElem?, List.getLastD_eq_getLast?, List.getLast?_eq_some_getLast hne]; rfl
      have hlast := hpl _ (getLastD_mem hne)
      unfold greedyMid at hK
      generalize ws.getLastD [] = wn at *
      conv in (List.drop 6 (fbody 2)) => whnf
      with_reducible refine Exo.cons ?_
      with_reducible refine E1o.readAssign a_ws (by kernel_rfl) ?_
      with_reducible refine Ev.item ?_
      with_reducible refine Ev.var (d := .list (ws.map D.str)) set_eq ?_
      with_reducible refine Ev.neg ?_
      refine It.listNeg (by decide) (by rw [List.length_map]; omega) hget (by rw [List.length_map]; simp only [sizeLine]; omega) ?_
      have b_got := (set_ne (ρ := ρ) (x := Str.ofString "w") (y := Str.ofString "got") (d := .str wn) (by decide +kernel)).trans a_got
      have b_ws := (set_ne (ρ := ρ) (x := Str.ofString "w") (y := Str.ofString "ws") (d := .str wn) (by decide +kernel)).trans a_ws
      have b_startpos := (set_ne (ρ := ρ) (x := Str.ofString "w") (y := Str.ofString "startpos") (d := .str wn) (by decide +kernel)).trans a_startpos
      have b_endpos := (set_ne (ρ := ρ) (x := Str.ofString "w") (y := Str.ofString "endpos") (d := .str wn) (by decide +kernel)).trans a_endpos
      have b_w : set ρ (Str.ofString "w") (.str wn) (Str.ofString "w") = some (.str wn) := set_eq
      have b_F := a_F.set (x := Str.ofString "w") (.str (s := wn))
      generalize set ρ (Str.ofString "w") (.str wn) = ρ1 at *
      with_reducible refine Exo.cons ?_
      with_reducible refine E1o.iteS ?_
      with_reducible refine Tr.plain ?_
      with_reducible refine Ev.var b_w ?_
      refine Th.str (by simp only [sizeLine]; omega) ?_
      by_cases hw0 : wn = []
      · subst hw0
        rw [if_neg (by simp)] at hK
        rw [if_neg (by decide)]
        with_reducible refine Exo.nil ?_
        refine hend a ρ1 N ws lo got.length (Nat.le_refl _) hwl hpl b_got b_ws b_startpos b_endpos ?_
        simpa using hK
      · rw [if_pos (by cases wn with | nil => exact absurd rfl hw0 | cons _ _ => rfl)]
        with_reducible refine Exo.cons ?_
        with_reducible refine E1o.iteS ?_
        with_reducible refine Tr.plain ?_
        with_reducible refine Ev.meths sl_endswith F.type_str_endswith ?_
        with_reducible refine Ev.var b_got ⟨_, rfl, ?_⟩
        with_reducible refine EvL.one ?_
        with_reducible refine Ev.var b_w ?_
        refine Ca.endswith ?_
        refine Th.bool ?_
        rw [ends_S]
        by_cases hsf : wn.isSuffixOf got = true
        · rw [if_neg (by rw [hsf]; simp), if_pos hw0] at hK
          rw [if_pos hsf]
          have hle := (List.isSuffixOf_iff_suffix.mp hsf).length_le
          with_reducible refine Exo.cons ?_
          with_reducible refine E1o.lift ?_
          with_reducible refine E1.aug (a := got.length) (b := wn.length) (r := ((got.length - wn.length : Nat) : Int)) (by kernel_rfl) b_endpos ?_ (.inr ⟨rfl, by omega⟩)
          with_reducible refine Ev.callb g_len (by kernel_rfl) ?_
          with_reducible refine EvL.one ?_
          with_reducible refine Ev.var b_w ?_
          refine Ca.len_str (by simp only [sizeLine]; omega) ⟨rfl, ?_⟩
          have c_got := (set_ne (ρ := ρ1) (x := Str.ofString "endpos") (y := Str.ofString "got") (d := .int ((got.length - wn.length : Nat) : Int)) (by decide +kernel)).trans b_got
          have c_ws := (set_ne (ρ := ρ1) (x := Str.ofString "endpos") (y := Str.ofString "ws") (d := .int ((got.length - wn.length : Nat) : Int)) (by decide +kernel)).trans b_ws
          have c_startpos := (set_ne (ρ := ρ1) (x := Str.ofString "endpos") (y := Str.ofString "startpos") (d := .int ((got.length - wn.length : Nat) : Int)) (by decide +kernel)).trans b_startpos
          have c_endpos : set ρ1 (Str.ofString "endpos") (.int ((got.length - wn.length : Nat) : Int)) (Str.ofString "endpos") = some (.int ((got.length - wn.length : Nat) : Int)) := set_eq
          have c_F := b_F.set (x := Str.ofString "endpos") (.int (i := ((got.length - wn.length : Nat) : Int)))
          generalize set ρ1 (Str.ofString "endpos") (.int ((got.length - wn.length : Nat) : Int)) = ρ2 at *
          with_reducible refine Exo.cons ?_
          with_reducible refine E1o.del (i := -1) (j := ws.length - 1) c_ws c_F (by rw [List.length_map]; simp only [sizeLine]; omega) (by decide) (by rw [List.length_map, StrLaws.seqIndex_neg (by decide) (by omega)]; congr 1; omega) ?_ ?_
          with_reducible refine Ev.neg rfl
          have hdl : (ws.map D.str).eraseIdx (ws.length - 1) = (ws.dropLast).map D.str := by
            rw [List.map_dropLast, ← List.length_map (f := D.str), List.eraseIdx_length_sub_one]
          rw [hdl]
          with_reducible refine Exo.nil ?_
          with_reducible refine Exo.nil ?_
          exact hend a ρ2 N ws.dropLast lo _ (Nat.sub_le ..) (by rw [List.length_dropLast]; omega) (fun p hp => hpl p (List.dropLast_subset _ hp)) c_got c_ws c_startpos c_endpos hK
        · have hsf' : wn.isSuffixOf got = false := Bool.eq_false_iff.mpr hsf
          rw [if_pos ⟨hw0, hsf'⟩] at hK
          rw [if_neg hsf]
          with_reducible refine Exo.cons ?_
          with_reducible refine E1o.lift ?_
          with_reducible refine E1.ret ?_
          exact Ev.bool hK
    conv in (fbody 2) => whnf
    with_reducible refine Ex.cons ?_
    with_reducible refine E1.iteS ?_
    with_reducible refine Tr.cmp ?_
    with_reducible refine Ev.glob g_mark (by kernel_rfl) ?_
    with_reducible refine Ev.var a_want ?_
    refine Co.notin_str ?_
    rw [contains_tight hT]
    cases ps with
    | nil =>
      rw [if_pos (by rfl)]
      rw [if_pos rfl] at h
      have e : p0 = want := by cases hT with | last _ => rfl | cut _ h' => exact absurd rfl h'.ne
      subst e
      with_reducible refine Ex.cons ?_
      with_reducible refine E1.ret ?_
      with_reducible refine Ev.cmp ?_
      with_reducible refine Ev.var a_want ?_
      with_reducible refine Ev.var a_got ?_
      exact Co.eq_str h
    | cons p1 ps =>
      rw [if_neg (by simp)]
      rw [if_neg (by simp), greedy_mid] at h
      with_reducible refine Ex.nil ?_
      with_reducible refine Ex.make (by kernel_rfl) ?_
      with_reducible refine EvF.meths sl_split F.type_str_split ?_
      with_reducible refine Ev.var a_want ⟨_, rfl, ?_⟩
      with_reducible refine EvL.one ?_
      with_reducible refine Ev.glob g_mark (by kernel_rfl) ?_
      refine CaF.split (by simp) (by simp only [sizeLine]; omega) (split_tight (by simp) (by decide +kernel) hT) ⟨_, rfl, ?_, fun a => ?_⟩
      · intro d hd
        obtain ⟨p, _, rfl⟩ := List.mem_map.mp hd
        exact .str
      have b_got := (set_ne (ρ := ρ0) (x := Str.ofString "ws") (y := Str.ofString "got") (d := .raw (.ref a)) (by decide +kernel)).trans a_got
      have b_ws : set ρ0 (Str.ofString "ws") (.raw (.ref a)) (Str.ofString "ws") = some (.raw (.ref a)) := set_eq
      have b_F := a_F.set (x := Str.ofString "ws") (.raw (v := .ref a))
      generalize set ρ0 (Str.ofString "ws") (.raw (.ref a)) = ρ1 at *
      simp only [List.length_cons] at hps
      with_reducible refine Exo.cons ?_
      with_reducible refine E1o.readAssert b_ws ?_
      with_reducible refine Tr.cmp ?_
      with_reducible refine Ev.callb g_len (by kernel_rfl) ?_
      with_reducible refine EvL.one ?_
      with_reducible refine Ev.var (d := .list ((p0 :: p1 :: ps).map D.str)) set_eq ?_
      refine Ca.len_list (by simp only [List.length_map, List.length_cons, sizeLine]; omega) ?_
      with_reducible refine Ev.int ?_
      refine Co.ge_int ⟨decide_eq_true (by simp only [List.length_map, List.length_cons]; omega), ?_⟩
      with_reducible refine Exo.cons ?_
      with_reducible refine E1o.lift ?_
      with_reducible refine E1.swap2 (by kernel_rfl) (by kernel_rfl) ?_ ?_ ?hsw
      case hsw => intro env he; cases env; dsimp only at he; subst he; kernel_rfl
      rotate_left
      · intro _; kernel_rfl
      with_reducible refine Ev.tup ?_
      with_reducible refine EvL.two ?_
      with_reducible refine Ev.int ?_
      with_reducible refine Ev.callb g_len (by kernel_rfl) ?_
      with_reducible refine EvL.one ?_
      with_reducible refine Ev.var b_got ?_
      refine Ca.len_str (by simp only [sizeLine]; omega) ⟨by show 2 ≤ sizeLine; decide, _, _, rfl, ?_⟩
      have c_got := (set_ne (ρ := ρ1) (x := Str.ofString "endpos") (y := Str.ofString "got") (d := .int (got.length : Int)) (by decide +kernel)).trans b_got
      have c_ws := (set_ne (ρ := ρ1) (x := Str.ofString "endpos") (y := Str.ofString "ws") (d := .int (got.length : Int)) (by decide +kernel)).trans b_ws
      have c_endpos : set ρ1 (Str.ofString "endpos") (.int (got.length : Int)) (Str.ofString "endpos") = some (.int (got.length : Int)) := set_eq
      have c_F := b_F.set (x := Str.ofString "endpos") (.int (i := (got.length : Int)))
      generalize set ρ1 (Str.ofString "endpos") (.int (got.length : Int)) = ρ2 at *
      have d_got := (set_ne (ρ := ρ2) (x := Str.ofString "startpos") (y := Str.ofString "got") (d := .int 0) (by decide +kernel)).trans c_got
      have d_ws := (set_ne (ρ := ρ2) (x := Str.ofString "startpos") (y := Str.ofString "ws") (d := .int 0) (by decide +kernel)).trans c_ws
      have d_endpos := (set_ne (ρ := ρ2) (x := Str.ofString "startpos") (y := Str.ofString "endpos") (d := .int 0) (by decide +kernel)).trans c_endpos
      have d_startpos : set ρ2 (Str.ofString "startpos") (.int 0) (Str.ofString "startpos") = some (.int 0) := set_eq
      have d_F := c_F.set (x := Str.ofString "startpos") (.int (i := 0))
      generalize set ρ2 (Str.ofString "startpos") (.int 0) = ρ3 at *
      with_reducible refine Exo.cons ?_
      with_reducible refine E1o.readAssign d_ws (by kernel_rfl) ?_
      with_reducible refine Ev.item ?_
      with_reducible refine Ev.var (d := .list ((p0 :: p1 :: ps).map D.str)) set_eq ?_
      with_reducible refine Ev.int ?_
      refine It.list (d := .str p0) (by decide) rfl (by simp only [List.length_map, List.length_cons, sizeLine]; omega) ?_
      have e_got := (set_ne (ρ := ρ3) (x := Str.ofString "w") (y := Str.ofString "got") (d := .str p0) (by decide +kernel)).trans d_got
      have e_ws := (set_ne (ρ := ρ3) (x := Str.ofString "w") (y := Str.ofString "ws") (d := .str p0) (by decide +kernel)).trans d_ws
      have e_startpos := (set_ne (ρ := ρ3) (x := Str.ofString "w") (y := Str.ofString "startpos") (d := .str p0) (by decide +kernel)).trans d_startpos
      have e_endpos := (set_ne (ρ := ρ3) (x := Str.ofString "w") (y := Str.ofString "endpos") (d := .str p0) (by decide +kernel)).trans d_endpos
      have e_w : set ρ3 (Str.ofString "w") (.str p0) (Str.ofString "w") = some (.str p0) := set_eq
      have e_F := d_F.set (x := Str.ofString "w") (.str (s := p0))
      generalize set ρ3 (Str.ofString "w") (.str p0) = ρ4 at *
      have hp0 := hpl p0 (List.mem_cons_self ..)
      with_reducible refine Exo.cons ?_
      with_reducible refine E1o.iteS ?_
      with_reducible refine Tr.plain ?_
      with_reducible refine Ev.var e_w ?_
      refine Th.str (by simp only [sizeLine]; omega) ?_
      by_cases hw0 : p0 = []
      · subst hw0
        rw [if_neg (by simp), if_neg (by simp)] at h
        rw [if_neg (by decide)]
        with_reducible refine Exo.nil ?_
        exact hmid a ρ4 _ ([] :: p1 :: ps) 0 (by simp) (by simp only [List.length_cons]; omega) hpl e_F e_got e_ws e_startpos e_endpos h
      · rw [if_pos (by cases p0 with | nil => exact absurd rfl hw0 | cons _ _ => rfl)]
        with_reducible refine Exo.cons ?_
        with_reducible refine E1o.iteS ?_
        with_reducible refine Tr.plain ?_
        with_reducible refine Ev.meths sl_startswith F.type_str_startswith ?_
        with_reducible refine Ev.var e_got ⟨_, rfl, ?_⟩
        with_reducible refine EvL.one ?_
        with_reducible refine Ev.var e_w ?_
        refine Ca.startswith ?_
        refine Th.bool ?_
        rw [starts_S]
        by_cases hpf : p0.isPrefixOf got = true
        · rw [if_neg (by rw [hpf]; simp), if_pos hw0] at h
          rw [if_pos hpf]
          with_reducible refine Exo.cons ?_
          with_reducible refine E1o.lift ?_
          with_reducible refine E1.assign (.inl (by kernel_rfl)) ?_
          with_reducible refine Ev.callb g_len (by kernel_rfl) ?_
          with_reducible refine EvL.one ?_
          with_reducible refine Ev.var e_w ?_
          refine Ca.len_str (by simp only [sizeLine]; omega) ?_
          have f_got := (set_ne (ρ := ρ4) (x := Str.ofString "startpos") (y := Str.ofString "got") (d := .int (p0.length : Int)) (by decide +kernel)).trans e_got
          have f_ws := (set_ne (ρ := ρ4) (x := Str.ofString "startpos") (y := Str.ofString "ws") (d := .int (p0.length : Int)) (by decide +kernel)).trans e_ws
          have f_endpos := (set_ne (ρ := ρ4) (x := Str.ofString "startpos") (y := Str.ofString "endpos") (d := .int (p0.length : Int)) (by decide +kernel)).trans e_endpos
          have f_startpos : set ρ4 (Str.ofString "startpos") (.int (p0.length : Int)) (Str.ofString "startpos") = some (.int (p0.length : Int)) := set_eq
          have f_F := e_F.set (x := Str.ofString "startpos") (.int (i := (p0.length : Int)))
          generalize set ρ4 (Str.ofString "startpos") (.int (p0.length : Int)) = ρ5 at *
          with_reducible refine Exo.cons ?_
          with_reducible refine E1o.del (i := 0) (j := 0) f_ws f_F (by simp only [List.length_map, List.length_cons, sizeLine]; omega) (by decide) (by rw [StrLaws.seqIndex_nonneg (by decide) (by simp only [List.length_map, List.length_cons]; omega)]; simp) ?_ ?_
          with_reducible refine Ev.int rfl
          with_reducible refine Exo.nil ?_
          with_reducible refine Exo.nil ?_
          exact hmid a ρ5 _ (p1 :: ps) p0.length (by simp) (by simp only [List.length_cons]; omega) (fun p hp => hpl p (List.mem_cons_of_mem _ hp)) f_F f_got f_ws f_startpos f_endpos h
        · have hpf' : p0.isPrefixOf got = false := Bool.eq_false_iff.mpr hpf
          rw [if_pos ⟨hw0, hpf'⟩] at h
          rw [if_neg hpf]
          with_reducible refine Exo.cons ?_
          with_reducible refine E1o.lift ?_
          with_reducible refine E1.ret ?_
          exact Ev.bool h
end Mine
end
section
set_option linter.unusedVariables false
namespace Mine

/-! cuttings -/
abbrev dots : List Nat := [46, 46, 46]
theorem pre_head {y0 : Nat} {y x : List Nat} (h : y0 :: y <+: x) : y0 ∈ x := h.subset (List.mem_cons_self ..)
theorem pre_head_drop {y0 : Nat} {y p s : List Nat} {j : Nat} (hj : j < p.length) (h : y0 :: y <+: (p ++ s).drop j) : y0 ∈ p := by
  rw [List.drop_append_of_le_length (by omega), List.drop_eq_getElem_cons hj, List.cons_append, List.cons_prefix_cons] at h
  rw [h.1]; exact List.getElem_mem hj
theorem tight_join {y0 : Nat} {y : List Nat} : ∀ (p0 : List Nat) (ps : List (List Nat)), (∀ p ∈ p0 :: ps, y0 ∉ p) → Tight (y0 :: y) ((y0 :: y).intercalate (p0 :: ps)) (p0 :: ps)
  | p0, [], h => by
    rw [show (y0 :: y).intercalate [p0] = p0 by simp]
    exact .last fun j _ hj => h p0 (List.mem_cons_self ..) (List.mem_of_mem_drop (pre_head hj))
  | p0, p1 :: ps, h => by
    rw [List.intercalate_cons_cons, List.append_assoc]
    exact .cut (fun j hj hx => h p0 (List.mem_cons_self ..) (pre_head_drop hj hx)) (tight_join p1 ps fun p hp => h p (List.mem_cons_of_mem _ hp))

/-- cutting at one sign -/
def spl1 (c : Nat) : List Nat → List (List Nat)
  | [] => [[]]
  | d :: r => if d = c then [] :: spl1 c r else match spl1 c r with | p :: ps => (d :: p) :: ps | [] => [[d]]
theorem spl1_ne (c : Nat) : ∀ x : List Nat, ∃ p ps, spl1 c x = p :: ps
  | [] => ⟨_, _, rfl⟩
  | d :: r => by
    obtain ⟨p, ps, h⟩ := spl1_ne c r
    unfold spl1
    rw [h]
    split <;> exact ⟨_, _, rfl⟩
theorem spl1_tight (c : Nat) : ∀ x : List Nat, Tight [c] x (spl1 c x)
  | [] => .last fun j _ h => by simp at h
  | d :: r => by
    have ih := spl1_tight c r
    unfold spl1
    by_cases e : d = c
    · rw [if_pos e, e]
      exact Tight.cut (y := [c]) (p := []) (r := r) (fun j hj => absurd hj (by simp)) ih
    · rw [if_neg e]
      obtain ⟨p, ps, h⟩ := spl1_ne c r
      rw [h] at ih ⊢
      have h0 : ∀ s, ¬ [c] <+: d :: s := fun s hs => by
        rw [List.cons_prefix_cons] at hs; exact e hs.1.symm
      cases ih with
      | last hz =>
        refine .last fun j hj hx => ?_
        cases j with
        | zero => exact h0 _ hx
        | succ j => exact hz j (by simpa using hj) (by simpa using hx)
      | @cut _ r' _ hp h' =>
        refine Tight.cut (y := [c]) (p := d :: p) (r := r') (fun j hj hx => ?_) h'
        cases j with
        | zero => exact h0 _ hx
        | succ j => exact hp j (by simpa using hj) (by simpa using hx)
theorem spl1_sub (c : Nat) : ∀ x : List Nat, ∀ p ∈ spl1 c x, p.Sublist x ∧ c ∉ p
  | [], p, h => by simp [spl1] at h; subst h; simp
  | d :: r, p, h => by
    have ih := spl1_sub c r
    unfold spl1 at h
    by_cases e : d = c
    · rw [if_pos e] at h
      rcases List.mem_cons.mp h with rfl | h
      · simp
      · exact ⟨(ih p h).1.cons _, (ih p h).2⟩
    · rw [if_neg e] at h
      obtain ⟨q, qs, hq⟩ := spl1_ne c r
      rw [hq] at h ih
      rcases List.mem_cons.mp h with rfl | h
      · have := ih q (List.mem_cons_self ..)
        refine ⟨this.1.cons_cons _, ?_⟩
        simp only [List.mem_cons, not_or]
        exact ⟨Ne.symm e, this.2⟩
      · have := ih p (List.mem_cons_of_mem _ h)
        exact ⟨this.1.cons _, this.2⟩
theorem spl1_length (c : Nat) : ∀ x : List Nat, (spl1 c x).length ≤ x.length + 1
  | [] => Nat.le_refl _
  | d :: r => by
    have ih := spl1_length c r
    unfold spl1
    split
    · simp only [List.length_cons]; omega
    · obtain ⟨q, qs, hq⟩ := spl1_ne c r
      rw [hq] at ih ⊢
      simp only [List.length_cons] at ih ⊢; omega
theorem flat_sub {f : Nat → List Nat} {a b : List Nat} (h : a.Sublist b) : (a.flatMap f).length ≤ (b.flatMap f).length := by
  induction h with
  | slnil => exact Nat.le_refl _
  | cons c _ ih => rw [List.flatMap_cons, List.length_append]; omega
  | cons_cons c _ ih => rw [List.flatMap_cons, List.flatMap_cons, List.length_append, List.length_append]; omega

section
variable {Al esc : List Nat} {u : Nat → Nat}
theorem enc_dots (h46 : 46 ∉ esc) (hu : u 46 = 46) : enc esc u dots = dots := by
  show cw esc u 46 ++ (cw esc u 46 ++ (cw esc u 46 ++ [])) = _
  rw [cw_out h46, hu]; rfl
theorem enc_join (h46 : 46 ∉ esc) (hu : u 46 = 46) : ∀ ps : List (List Nat), enc esc u (dots.intercalate ps) = dots.intercalate (ps.map (enc esc u))
  | [] => rfl
  | [p] => by simp
  | p :: q :: ps => by
    rw [List.intercalate_cons_cons, enc_append, enc_append, enc_dots h46 hu, enc_join h46 hu (q :: ps)]
    simp only [List.map_cons]
    rw [List.intercalate_cons_cons]
theorem dots_back (C : CodeZ Al esc u) (hA : 46 ∈ Al) (h46 : 46 ∉ esc) (hu : u 46 = 46) (hf : ∀ e ∈ Al, e ∈ esc → ∀ h ∈ fig e, h ≠ 46) {x : List Nat} (hx : ∀ c ∈ x, c ∈ Al) {j : Nat} (hj : j ≤ (enc esc u x).length) (h : dots <+: (enc esc u x).drop j) :
    ∃ m, j = (enc esc u (x.take m)).length ∧ m ≤ x.length ∧ dots <+: x.drop m := by
  obtain ⟨m, am, h1, h2, h3⟩ := viewAt (u := u) (esc := esc) x j hj
  subst h1
  rw [drop_view h2] at h
  by_cases ha : am = 0
  · subst ha
    refine ⟨m, rfl, h2, ?_⟩
    rw [List.drop_zero, ← enc_dots h46 hu, enc_pre C (by intro c hc; simp at hc; exact hc ▸ hA) (fun c hc => hx c (List.mem_of_mem_drop hc))] at h
    exact h
  · rcases h3 with h3 | ⟨hlt, c, r, hd, hc⟩
    · exact absurd h3 ha
    · exfalso
      have hcA : c ∈ Al := hx c (by have : c ∈ x.drop m := by rw [hd]; exact List.mem_cons_self ..
                                    exact List.mem_of_mem_drop this)
      rw [hd, drop_torn hc hlt, if_neg ha, List.nil_append] at h
      obtain ⟨a, b, hab⟩ := fig_two c
      have hh := hf c hcA hc
      rw [hab] at hh h
      have hx : ∃ p y, (([a, b].drop (am - 1)) ++ enc esc u r) = p :: y ∧ p ∈ [a, b] := by
        match am, ha, hlt with
        | 1, _, _ => exact ⟨a, _, rfl, by simp⟩
        | 2, _, _ => exact ⟨b, _, rfl, by simp⟩
      obtain ⟨p, y, hxy, hxm⟩ := hx
      rw [hxy, List.cons_prefix_cons] at h
      exact hh p hxm h.1.symm
theorem tight_enc (C : CodeZ Al esc u) (hA : 46 ∈ Al) (h46 : 46 ∉ esc) (hu : u 46 = 46) (hf : ∀ e ∈ Al, e ∈ esc → ∀ h ∈ fig e, h ≠ 46) : ∀ {x : List Nat} {parts : List (List Nat)}, Tight dots x parts → (∀ c ∈ x, c ∈ Al) → Tight dots (enc esc u x) (parts.map (enc esc u)) := by
  intro x parts h
  induction h with
  | @last x hz =>
    intro hx
    refine .last fun j hj hd => ?_
    obtain ⟨m, _, h2, h3⟩ := dots_back C hA h46 hu hf hx hj hd
    exact hz m h2 h3
  | @cut p r ps hp h' ih =>
    intro hx
    have e : enc esc u (p ++ (dots ++ r)) = enc esc u p ++ (dots ++ enc esc u r) := by rw [enc_append, enc_append, enc_dots h46 hu]
    have ih := ih fun c hc => hx c (by simp [hc])
    rw [e, List.map_cons]
    refine .cut (fun j hj hd => ?_) ih
    rw [← e] at hd
    obtain ⟨m, h1, h2, h3⟩ := dots_back C hA h46 hu hf hx (by rw [e, List.length_append]; omega) hd
    rcases Nat.lt_or_ge m p.length with q | q
    · exact hp m q h3
    · rw [List.take_append, List.take_of_length_le q, enc_append, List.length_append] at h1
      omega
end

/-- folding is cutting -/
theorem cut_l3 (g : List Nat) : cut (some (-3)) none g = g.drop (g.length - 3) := by
  unfold cut
  rw [show lowI g.length (some (-3)) = g.length - 3 by unfold lowI; simp only; omega]
  rw [List.take_of_length_le]
  rw [List.length_drop]; show _ ≤ g.length - _; omega
theorem cut_f3 (g : List Nat) : cut none (some (-3)) g = g.take (g.length - 3) := by
  unfold cut
  show (g.drop 0).take (highI g.length (some (-3)) - 0) = _
  rw [List.drop_zero, Nat.sub_zero, show highI g.length (some (-3)) = g.length - 3 by unfold highI; simp only; omega]
def tg : List Nat → List Nat → List (List Nat)
  | cur, [] => [cur]
  | cur, c :: r => if (cur ++ [c]).drop ((cur ++ [c]).length - 3) = dots then (cur ++ [c]).take ((cur ++ [c]).length - 3) :: tg [] r else tg (cur ++ [c]) r
theorem fold_tg : ∀ (t : List Nat) (front : List (List Nat)) (cur : List Nat), t.foldl foldStep (front ++ [cur]) = front ++ tg cur t
  | [], _, _ => rfl
  | c :: r, front, cur => by
    rw [List.foldl_cons]
    have hl : (front ++ [cur]).getLastD [] = cur := by simp
    unfold foldStep tg
    rw [hl, cut_l3, cut_f3, List.dropLast_concat]
    by_cases e : (cur ++ [c]).drop ((cur ++ [c]).length - 3) = dots
    · rw [if_pos (by simpa using e), if_pos e]
      have := fold_tg r (front ++ [(cur ++ [c]).take ((cur ++ [c]).length - 3)]) []
      simp only [List.append_assoc, List.cons_append, List.nil_append] at this ⊢
      exact this
    · rw [if_neg (by simpa using e), if_neg e]
      exact fold_tg r front (cur ++ [c])
theorem tg_tight : ∀ (t cur : List Nat), (∀ j, j ≤ cur.length → ¬ dots <+: cur.drop j) → Tight dots (cur ++ t) (tg cur t)
  | [], cur, h => by rw [List.append_nil]; exact .last h
  | c :: r, cur, h => by
    have hin : ∀ (s : List Nat) (j : Nat), j + 3 ≤ cur.length → ¬ dots <+: (cur ++ s).drop j := fun s j hj hd => by
      rw [List.drop_append_of_le_length (by omega)] at hd
      have h1 := List.prefix_iff_eq_take.mp hd
      rw [List.take_append_of_le_length (by rw [List.length_drop]; show 3 ≤ _; omega)] at h1
      exact h j (by omega) (List.prefix_iff_eq_take.mpr h1)
    have e0 : cur ++ c :: r = (cur ++ [c]) ++ r := by simp
    unfold tg
    by_cases e : (cur ++ [c]).drop ((cur ++ [c]).length - 3) = dots
    · rw [if_pos e]
      have hlen : 3 ≤ (cur ++ [c]).length := by
        have := congrArg List.length e
        rw [List.length_drop] at this
        have h3 : dots.length = 3 := rfl
        omega
      have ih := tg_tight r [] (fun j hj hd => by simp at hd)
      rw [List.nil_append] at ih
      have e1 : cur ++ c :: r = (cur ++ [c]).take ((cur ++ [c]).length - 3) ++ (dots ++ r) := by
        rw [e0, ← List.append_assoc, ← e, List.take_append_drop]
      rw [e1]
      refine .cut (fun j hj hd => ?_) ih
      rw [← e1] at hd
      rw [List.length_take] at hj
      refine hin (c :: r) j ?_ hd
      simp only [List.length_append, List.length_singleton] at hj hlen ⊢; omega
    · rw [if_neg e, e0]
      refine tg_tight r (cur ++ [c]) fun j hj hd => ?_
      have hl := hd.length_le
      rw [List.length_drop] at hl
      have h3 : dots.length = 3 := rfl
      rw [h3] at hl
      simp only [List.length_append, List.length_singleton] at hl hj
      by_cases q : j + 3 ≤ cur.length
      · exact hin [c] j q hd
      · have hj2 : j = (cur ++ [c]).length - 3 := by simp only [List.length_append, List.length_singleton]; omega
        subst hj2
        refine e (List.IsPrefix.eq_of_length hd ?_).symm
        rw [List.length_drop, h3]
        simp only [List.length_append, List.length_singleton] at hl ⊢; omega
theorem folded_tight (t : List Nat) : Tight dots t (folded t) := by
  have h := fold_tg t [] []
  rw [List.nil_append, List.nil_append] at h
  unfold folded
  rw [h]
  have := tg_tight t [] (fun j hj hd => by simp at hd)
  rwa [List.nil_append] at this
end Mine
end
section
set_option linter.unusedVariables false
namespace Mine
open PySem PyProof.Rows

/-! the three codes of the law -/
def AlL : List Nat := [69, 50, 57, 32, 46, 61, 233]
def escQ : List Nat := [69, 50, 57, 32, 46, 61, 233]
def escH : List Nat := [46, 61, 233]
def uH (c : Nat) : Nat := if c = 32 then 95 else c
def escB : List Nat := [61, 233, 126]
def AlB : List Nat := [69, 50, 57, 32, 46, 61, 233, 126]
theorem codeQ0 : CodeZ AlL escQ id := ⟨by decide, by decide, by decide, by decide⟩
theorem codeH : CodeT AlL escH uH := ⟨⟨by decide, by decide, by decide, by decide⟩, by decide, by decide⟩
theorem codeB : CodeT AlB escB id := ⟨⟨by decide, by decide, by decide, by decide⟩, by decide, by decide⟩
theorem al_cases {c : Nat} (h : c ∈ AlL) : c = 69 ∨ c = 50 ∨ c = 57 ∨ c = 32 ∨ c = 46 ∨ c = 61 ∨ c = 233 := by
  simpa [AlL] using h
theorem al_lt {c : Nat} (h : c ∈ AlL) : c < 256 := by rcases al_cases h with rfl | rfl | rfl | rfl | rfl | rfl | rfl <;> decide
theorem al_B {c : Nat} (h : c ∈ AlL) : c ∈ AlB := by rcases al_cases h with rfl | rfl | rfl | rfl | rfl | rfl | rfl <;> decide
theorem hexT_al {c : Nat} (h : c ∈ AlL) : hexT c = cw escQ id c := by
  rcases al_cases h with rfl | rfl | rfl | rfl | rfl | rfl | rfl <;> kernel_rfl
theorem hdrT_al {c : Nat} (h : c ∈ AlL) : hdrT c = cw escH uH c := by
  rcases al_cases h with rfl | rfl | rfl | rfl | rfl | rfl | rfl <;> kernel_rfl
theorem bdyT_al {c : Nat} (h : c ∈ AlL) : bdyT c = cw escB id c := by
  rcases al_cases h with rfl | rfl | rfl | rfl | rfl | rfl | rfl <;> kernel_rfl
theorem flat_al {f g : Nat → List Nat} (h : ∀ c ∈ AlL, f c = g c) : ∀ {t : List Nat}, (∀ c ∈ t, c ∈ AlL) → t.flatMap f = t.flatMap g
  | [], _ => rfl
  | c :: r, ht => by rw [List.flatMap_cons, List.flatMap_cons, h c (ht c (List.mem_cons_self ..)), flat_al h fun d hd => ht d (List.mem_cons_of_mem _ hd)]
theorem hex_enc {t : List Nat} (h : ∀ c ∈ t, c ∈ AlL) : t.flatMap hexT = enc escQ id t := flat_al (fun c hc => hexT_al hc) h
theorem hdr_enc {t : List Nat} (h : ∀ c ∈ t, c ∈ AlL) : t.flatMap hdrT = enc escH uH t := flat_al (fun c hc => hdrT_al hc) h
theorem bdy_enc {t : List Nat} (h : ∀ c ∈ t, c ∈ AlL) : t.flatMap bdyT = enc escB id t := flat_al (fun c hc => bdyT_al hc) h
theorem encH_swap {t : List Nat} (h : ∀ c ∈ t, c ∈ AlL) : enc escH id (t.map uH) = enc escH uH t := by
  unfold enc
  rw [List.flatMap_map]
  refine flat_al (fun c hc => ?_) h
  rcases al_cases hc with rfl | rfl | rfl | rfl | rfl | rfl | rfl <;> decide
theorem hdr_no46 {t : List Nat} (h : ∀ c ∈ t, c ∈ AlL) : 46 ∉ enc escH uH t := by
  unfold enc
  intro hm
  obtain ⟨c, hc, h2⟩ := List.mem_flatMap.mp hm
  rcases al_cases (h c hc) with rfl | rfl | rfl | rfl | rfl | rfl | rfl <;> revert h2 <;> decide
theorem hex_no46 {t : List Nat} (h : ∀ c ∈ t, c ∈ AlL) : 46 ∉ enc escQ id t := by
  unfold enc
  intro hm
  obtain ⟨c, hc, h2⟩ := List.mem_flatMap.mp hm
  rcases al_cases (h c hc) with rfl | rfl | rfl | rfl | rfl | rfl | rfl <;> revert h2 <;> decide
theorem enc_len (esc : List Nat) (u : Nat → Nat) : ∀ t : List Nat, (enc esc u t).length ≤ 3 * t.length
  | [] => Nat.le_refl _
  | c :: r => by
    have := cw_len esc u c
    have := enc_len esc u r
    rw [enc_cons, List.length_append, List.length_cons]; omega

/-! the shown text -/
theorem cut_l1 (g : List Nat) : cut (some (-1)) none g = g.drop (g.length - 1) := by
  unfold cut
  rw [show lowI g.length (some (-1)) = g.length - 1 by unfold lowI; simp only; omega]
  rw [List.take_of_length_le]
  rw [List.length_drop]; show _ ≤ g.length - _; omega
theorem shown_nil : shown [] = [] := by decide
theorem shown_snoc (y : List Nat) (d : Nat) : shown (y ++ [d]) = if d = 32 then y ++ [126] else y ++ [d] := by
  unfold shown
  rw [cut_l1, cut_m1]
  simp only [List.length_append, List.length_singleton, Nat.add_sub_cancel, List.drop_left, List.dropLast_concat]
  by_cases e : d = 32
  · rw [if_pos (by simp [e]), if_pos e]
  · rw [if_neg (by simp [e]), if_neg e]
theorem snoc_of {x : List Nat} (h : x ≠ []) : ∃ y d, x = y ++ [d] := ⟨x.dropLast, x.getLast h, (List.dropLast_concat_getLast h).symm⟩
theorem shown_len (x : List Nat) : (shown x).length = x.length := by
  by_cases h : x = []
  · subst h; rw [shown_nil]
  · obtain ⟨y, d, rfl⟩ := snoc_of h
    rw [shown_snoc]; split <;> simp
theorem shown_al {x : List Nat} (h : ∀ c ∈ x, c ∈ AlL) : ∀ c ∈ shown x, c ∈ AlB := by
  by_cases hx : x = []
  · subst hx; rw [shown_nil]; intro c hc; cases hc
  · obtain ⟨y, d, rfl⟩ := snoc_of hx
    have hy : ∀ c ∈ y, c ∈ AlB := fun c hc => al_B (h c (by simp [hc]))
    rw [shown_snoc]
    split
    · intro c hc
      rcases List.mem_append.mp hc with q | q
      · exact hy c q
      · rw [List.mem_singleton.mp q]; decide
    · intro c hc
      rcases List.mem_append.mp hc with q | q
      · exact hy c q
      · rw [List.mem_singleton.mp q]; exact al_B (h d (by simp))

/-! no line ends -/
theorem noline {x : List Nat} (hne : x ≠ []) (h : ∀ c ∈ x, Unicode.isLineBreak c = false) : lineCuts (S x) = [(0, x.length)] := by
  have hl : ∀ (n i : Nat), i + n ≤ x.length → Id.run (forIn (m := Id) (List.range' i n) ((#[], 0) : StrLaws.LsSt) (StrLaws.lsBody (S x))) = (#[], 0) := by
    intro n
    induction n with
    | zero => intro i _; rfl
    | succ n ih =>
      intro i hi
      rw [List.range'_succ, List.forIn_cons]
      have hb : StrLaws.lsBody (S x) i (#[], 0) = pure (ForInStep.yield (#[], 0)) := by
        unfold StrLaws.lsBody
        rw [if_neg]
        have hi' : i < x.length := by omega
        have : (S x).cps.getD i 0 = x[i] := by simp [hi']
        rw [this, h _ (List.getElem_mem hi')]
        simp
      rw [hb]
      exact ih (i + 1) (by omega)
  unfold lineCuts
  rw [StrLaws.ls_eq]
  have := hl x.length 0 (by omega)
  rw [show (S x).length = x.length from S_len x, this]
  unfold StrLaws.lsEnd
  have hpos : 0 < x.length := List.length_pos_iff.mpr hne
  rw [show (S x).length = x.length from S_len x, if_pos hpos]
  rfl
theorem bdy_noline {t : List Nat} (h : ∀ c ∈ t, c ∈ AlL) : ∀ c ∈ enc escB id t, Unicode.isLineBreak c = false ∧ c ≠ 9 ∧ c ≠ 10 ∧ c ≠ 13 := by
  unfold enc
  intro d hm
  obtain ⟨c, hc, h2⟩ := List.mem_flatMap.mp hm
  have hs : d ∈ [69, 50, 57, 32, 46, 61, 51, 68] := by
    have : ∀ c ∈ AlL, ∀ x ∈ cw escB id c, x ∈ [69, 50, 57, 32, 46, 61, 51, 68] := by decide
    exact this c (h c hc) d h2
  simp only [List.mem_cons, List.not_mem_nil, or_false] at hs
  rcases hs with rfl | rfl | rfl | rfl | rfl | rfl | rfl | rfl <;> (refine ⟨by decide +kernel, by decide, by decide, by decide⟩)

/-- body_encode upon the law's signs -/
theorem k_bodyE {w : World} {k : Nat} {x : List Nat} (hx : ∀ c ∈ x, c ∈ AlL) (hl : x.length ≤ 100) (hlen : (enc escB id x).length ≤ 74) {K : D → Prop} (h : K (.str (enc escB id (shown x)))) : Ca (Gr w) (k + 2) (.ref 65) [.str x] K := by
  by_cases h0 : x = []
  · subst h0
    rw [shown_nil] at h
    exact k_body0 h
  · obtain ⟨y, d, rfl⟩ := snoc_of h0
    have hne : enc escB id (y ++ [d]) ≠ [] := fun e => h0 (enc_nil e)
    obtain ⟨P, c, hPc⟩ := snoc_of hne
    have hb := bdy_noline hx
    rw [hPc] at hb hlen
    obtain ⟨_, c9, c10, c13⟩ := hb c (by simp)
    refine k_body (P := P) (c := c) (fun c hc => al_lt (hx c hc)) (by omega) (by rw [bdy_enc hx, hPc]) hlen c9 c10 c13 (noline (by simp) fun c hc => (hb c hc).1) ?_
    rw [shown_snoc] at h
    have hd := hx d (by simp)
    rw [enc_append] at hPc
    have e1 : enc escB id [d] = cw escB id d := by simp [enc]
    rw [e1] at hPc
    by_cases e : d = 32
    · subst e
      rw [if_pos rfl, enc_append] at h
      have : (P ++ [c]) = enc escB id y ++ [32] := hPc.symm
      obtain ⟨rfl, hc⟩ := List.append_inj' this rfl
      rw [List.cons.injEq] at hc
      rw [if_pos hc.1]
      have e2 : hexT 32 = enc escB id [126] := by kernel_rfl
      rw [e2]; exact h
    · rw [if_neg e, enc_append, e1, hPc] at h
      have hc : c ≠ 32 := by
        intro hc
        subst hc
        have hlast : (cw escB id d).getLast? = some 32 := by
          have := congrArg List.getLast? hPc
          rw [List.getLast?_append, List.getLast?_concat] at this
          have hcw : cw escB id d ≠ [] := by
            intro q; have := cw_pos escB id d; rw [q] at this; simp at this
          rw [List.getLast?_eq_some_getLast hcw] at this ⊢
          simpa using this
        rcases al_cases hd with rfl | rfl | rfl | rfl | rfl | rfl | rfl <;> revert hlast e <;> decide
      rw [if_neg hc]; exact h
end Mine
end
section
open PySem PySem.W PyProof.Rows
set_option Elab.async false
set_option maxRecDepth 100000
set_option maxHeartbeats 4000000
set_option linter.unusedVariables false
namespace Mine
theorem CompP.chars {G : Gx} {k : Nat} {sc : Scope} {ρ : Rho} {x : Str} {elt : Expr} {f : Nat → List Nat} {t : List Nat} {K : List D → Prop} (h : ∀ c ∈ t, ∀ K' : D → Prop, K' (.str (f c)) → Ev G k sc (set ρ x (.str [c])) elt K') (hK : K ((t.map f).map D.str)) :
    CompP G k sc ρ x [] elt (t.map fun c => .str [c]) [] K := by
  refine CompP.mapD (f := fun d => match d with | .str [c] => .str (f c) | d => d) ?_ ?_ ?_
  · intro d hd K' hK'
    obtain ⟨c, hc, rfl⟩ := List.mem_map.mp hd
    exact h c hc K' hK'
  · intro d hd
    obtain ⟨c, hc, rfl⟩ := List.mem_map.mp hd
    exact .str
  · rw [List.nil_append, List.map_map]
    rw [List.map_map] at hK
    exact hK
theorem CompP.charsInt {G : Gx} {k : Nat} {sc : Scope} {ρ : Rho} {x : Str} {elt : Expr} {t : List Nat} {K : List D → Prop} (h : ∀ c ∈ t, ∀ K' : D → Prop, K' (.int ((c : Nat) : Int)) → Ev G k sc (set ρ x (.str [c])) elt K') (hK : K (t.map fun (n : Nat) => D.int n)) :
    CompP G k sc ρ x [] elt (t.map fun c => .str [c]) [] K := by
  refine CompP.mapD (f := fun d => match d with | .str [c] => .int ((c : Nat) : Int) | d => d) ?_ ?_ ?_
  · intro d hd K' hK'
    obtain ⟨c, hc, rfl⟩ := List.mem_map.mp hd
    exact h c hc K' hK'
  · intro d hd
    obtain ⟨c, hc, rfl⟩ := List.mem_map.mp hd
    exact .int
  · rw [List.nil_append, List.map_map]
    exact hK
theorem CompP.strs {G : Gx} {k : Nat} {sc : Scope} {ρ : Rho} {x : Str} {elt : Expr} {f : List Nat → List Nat} {t : List (List Nat)} {K : List D → Prop} (h : ∀ c ∈ t, ∀ K' : D → Prop, K' (.str (f c)) → Ev G k sc (set ρ x (.str c)) elt K') (hK : K ((t.map f).map D.str)) :
    CompP G k sc ρ x [] elt (t.map D.str) [] K := by
  refine CompP.mapD (f := fun d => match d with | .str c => .str (f c) | d => d) ?_ ?_ ?_
  · intro d hd K' hK'
    obtain ⟨c, hc, rfl⟩ := List.mem_map.mp hd
    exact h c hc K' hK'
  · intro d hd
    obtain ⟨c, hc, rfl⟩ := List.mem_map.mp hd
    exact .str
  · rw [List.nil_append, List.map_map]
    rw [List.map_map] at hK
    exact hK
theorem sum_le {α : Type} {f : α → List Nat} {B : Nat} : ∀ {t : List α}, (∀ c ∈ t, (f c).length ≤ B) → ((t.map f).map List.length).sum ≤ B * t.length
  | [], _ => Nat.le_refl _
  | c :: r, h => by
    have h1 := h c (List.mem_cons_self ..)
    have h2 := sum_le (t := r) fun d hd => h d (List.mem_cons_of_mem _ hd)
    simp only [List.map_cons, List.sum_cons, List.length_cons, Nat.mul_add, Nat.mul_one]
    omega
theorem joinOk_map {α : Type} {x : List Nat} {f : α → List Nat} {B n : Nat} {t : List α} (hx : x.length ≤ 16) (h : ∀ c ∈ t, (f c).length ≤ B) (hn : t.length ≤ n) (hb : B * n + n ≤ 1048576) : JoinOk (S x) ((t.map f).map S) = true := by
  refine joinOk_of hx ?_
  have h1 := sum_le h
  have h2 : B * t.length ≤ B * n := Nat.mul_le_mul_left _ hn
  rw [List.length_map]; omega
theorem join_len (y : List Nat) : ∀ ps : List (List Nat), (y.intercalate ps).length ≤ (ps.map List.length).sum + y.length * ps.length
  | [] => by simp
  | [p] => by simp
  | p :: q :: ps => by
    have := join_len y (q :: ps)
    rw [List.intercalate_cons_cons]
    simp only [List.length_append, List.map_cons, List.sum_cons, List.length_cons, Nat.mul_add, Nat.mul_one] at this ⊢
    omega
theorem flat_eq (f : Nat → List Nat) (t : List Nat) : (t.map f).flatten = t.flatMap f := rfl
theorem contains_cast (l : List Nat) (n : Nat) : (l.map fun (n : Nat) => (n : Int)).contains ((n : Nat) : Int) = decide (n ∈ l) := by
  rw [Bool.eq_iff_iff, decide_eq_true_eq, List.contains_iff_mem, List.mem_map]
  constructor
  · rintro ⟨x, h1, h2⟩
    have : x = n := by omega
    exact this ▸ h1
  · intro h; exact ⟨n, h, rfl⟩
theorem take_flat_len (f : Nat → List Nat) (hf : ∀ j, (f j).length ≤ 3) (t : List Nat) : (t.flatMap f).length ≤ 3 * t.length := flat_len hf t
theorem hexT_len (j : Nat) : (hexT j).length ≤ 3 := by unfold hexT; simp
/-- the pieces and the text of the law -/
structure Drawn (t p0 : List Nat) (ps : List (List Nat)) : Prop where
  t_al : ∀ c ∈ t, c ∈ AlL
  t_len : t.length ≤ 20
  p_al : ∀ p ∈ p0 :: ps, ∀ c ∈ p, c ∈ AlL
  p_sum : ((p0 :: ps).map List.length).sum ≤ 40
  p_cnt : (p0 :: ps).length ≤ 40
  p_body : ∀ p ∈ p0 :: ps, (enc escB id p).length ≤ 70
theorem Drawn.p_len {t p0 : List Nat} {ps : List (List Nat)} (d : Drawn t p0 ps) : ∀ p ∈ p0 :: ps, p.length ≤ 40 := fun p hp => by
  have : ∀ (l : List (List Nat)), p ∈ l → p.length ≤ (l.map List.length).sum := by
    intro l
    induction l with
    | nil => intro h; cases h
    | cons q l ih =>
      intro h
      rw [List.map_cons, List.sum_cons]
      rcases List.mem_cons.mp h with rfl | h
      · omega
      · have := ih h; omega
  exact Nat.le_trans (this _ hp) d.p_sum
theorem enc_sum (esc : List Nat) (u : Nat → Nat) : ∀ l : List (List Nat), ((l.map (enc esc u)).map List.length).sum ≤ 3 * (l.map List.length).sum
  | [] => Nat.le_refl _
  | q :: l => by
    have := enc_len esc u q
    have := enc_sum esc u l
    simp only [List.map_cons, List.sum_cons]; omega
theorem map_al {f : List Nat → List Nat} {g : List Nat → List Nat} {ps : List (List Nat)} (h : ∀ p ∈ ps, f p = g p) : ps.map f = ps.map g := List.map_congr_left h
set_option maxHeartbeats 8000000 in
theorem law_seg1 {w : World} {k : Nat} {K : D → Prop} {t p0 : List Nat} {ps : List (List Nat)} (dr : Drawn t p0 ps) (ρ : Rho) (a_text : ρ (Str.ofString "text") = some (.str t)) (a_pieces : ρ (Str.ofString "pieces") = some (.list ((p0 :: ps).map D.str))) (N : Rho → Prop)
    (hrest : ∀ ρ' : Rho, ρ' (Str.ofString "text") = some (.str t) → ρ' (Str.ofString "pieces") = some (.list ((p0 :: ps).map D.str)) → Ex (Gr w) (k + 3) (fscope 30) ρ' ((fbody 30).drop 11) N K) : Ex (Gr w) (k + 3) (fscope 30) ρ ((fbody 30).drop 6) N K := by
    have htl := dr.t_len
    have hpc := dr.p_cnt
    have hps := dr.p_sum
    have hpl := dr.p_len
    have loop : ∀ (N' : Rho → Prop) (body : List Stmt) (hb : body = forBody ((fbody 30).drop 10)) (l : List Nat) (ρ : Rho), (∀ i ∈ l, i ≤ t.length) →
        ρ (Str.ofString "text") = some (.str t) → ρ (Str.ofString "pieces") = some (.list ((p0 :: ps).map D.str)) → ρ (Str.ofString "asked") = some (.str (dots.intercalate ((p0 :: ps).map (enc escQ id)))) → ρ (Str.ofString "spelled") = some (.str (enc escQ id t)) → ρ (Str.ofString "ends") = some (.list (nats (ends (p0 :: ps) t []))) →
        (∀ ρ' : Rho, ρ' (Str.ofString "text") = some (.str t) → ρ' (Str.ofString "pieces") = some (.list ((p0 :: ps).map D.str)) → N' ρ') →
        Lo (Gr w) (k + 3) (fscope 30) (Str.ofString "k") body N' K (l.map fun (i : Nat) => .int i) ρ := by
      intro N' body hb l
      induction l with
      | nil => intro ρ _ h1 h2 _ _ _ hN; exact hN ρ h1 h2
      | cons i l ih =>
        intro ρ hil a_text a_pieces a_asked a_spelled a_ends hN
        have hi := hil i (List.mem_cons_self ..)
        show Ex (Gr w) (k + 3) (fscope 30) (set ρ (Str.ofString "k") (.int i)) body (fun ρ' => Lo (Gr w) (k + 3) (fscope 30) (Str.ofString "k") body N' K (l.map fun (i : Nat) => .int i) ρ') K
        have b_text := (set_ne (ρ := ρ) (x := Str.ofString "k") (y := Str.ofString "text") (d := .int (i : Int)) (by decide +kernel)).trans a_text
        have b_pieces := (set_ne (ρ := ρ) (x := Str.ofString "k") (y := Str.ofString "pieces") (d := .int (i : Int)) (by decide +kernel)).trans a_pieces
        have b_asked := (set_ne (ρ := ρ) (x := Str.ofString "k") (y := Str.ofString "asked") (d := .int (i : Int)) (by decide +kernel)).trans a_asked
        have b_spelled := (set_ne (ρ := ρ) (x := Str.ofString "k") (y := Str.ofString "spelled") (d := .int (i : Int)) (by decide +kernel)).trans a_spelled
        have b_ends := (set_ne (ρ := ρ) (x := Str.ofString "k") (y := Str.ofString "ends") (d := .int (i : Int)) (by decide +kernel)).trans a_ends
        have b_k : set ρ (Str.ofString "k") (.int (i : Int)) (Str.ofString "k") = some (.int (i : Int)) := set_eq
        generalize set ρ (Str.ofString "k") (.int (i : Int)) = ρ1 at *
        have ihx := fun ρ' a b c d e => ih ρ' (fun j hj => hil j (List.mem_cons_of_mem _ hj)) a b c d e hN
        rw [hb] at ihx ⊢
        conv => arg 5; whnf
        with_reducible refine Ex.cons ?_
        with_reducible refine E1.iteS ?_
        with_reducible refine Tr.cmp ?_
        with_reducible refine Ev.calld g_ellipsismatch (by kernel_rfl) (fun h x => ⟨_, _, at_fellipsismatch x, rfl⟩) ?_
        with_reducible refine EvL.two ?_
        with_reducible refine Ev.var b_asked ?_
        with_reducible refine Ev.slice ?_
        with_reducible refine Ev.var b_spelled ?_
        with_reducible refine EvO.none ?_
        with_reducible refine EvO.some ?_
        with_reducible refine Ev.bin ?_
        with_reducible refine Ev.int ?_
        with_reducible refine Ev.var b_k ?_
        refine Bo.mul_int (IntMulOk.of_left (by decide +kernel)) ⟨_, rfl, ?_⟩
        have hel := enc_len escQ id t
        refine Sl.str (by simp only [sizeLine]; omega) ?_
        rw [show (3 : Int) * (i : Int) = ((3 * i : Nat) : Int) by omega, cut_to]
        have hsum := enc_sum escQ id (p0 :: ps)
        have hjl := join_len dots ((p0 :: ps).map (enc escQ id))
        rw [List.length_map] at hjl
        have h3 : dots.length = 3 := rfl
        rw [h3] at hjl
        refine k_match (k := k + 2) (p0 := enc escQ id p0) (ps := ps.map (enc escQ id)) (by omega) (by rw [List.length_take]; omega) ?_ ?_ (by rw [List.length_map]; simp only [List.length_cons] at hpc; omega) ?_
        · rw [← List.map_cons]
          refine tight_join _ _ fun p hp => ?_
          rw [← List.map_cons] at hp
          obtain ⟨q, hq, rfl⟩ := List.mem_map.mp hp
          exact hex_no46 (dr.p_al q hq)
        · intro p hp
          rw [← List.map_cons] at hp
          obtain ⟨q, hq, rfl⟩ := List.mem_map.mp hp
          have := enc_len escQ id q
          have := hpl q hq
          omega
        with_reducible refine Ev.cmp ?_
        with_reducible refine Ev.bin ?_
        with_reducible refine Ev.int ?_
        with_reducible refine Ev.var b_k ?_
        refine Bo.mul_int (IntMulOk.of_left (by decide +kernel)) ?_
        with_reducible refine Ev.var b_ends ?_
        unfold nats
        refine Co.in_ints ?_
        refine Co.ne_bool ?_
        rw [show (3 : Int) * (i : Int) = ((3 * i : Nat) : Int) by omega, contains_cast]
        have hq := askedAll (k := i) codeQ0 (fun c hc => hc) dr.t_al dr.p_al hi
        simp only [List.map_eq_nil_iff]
        rw [List.map_cons] at hq
        rw [hq, if_neg (by simp)]
        with_reducible refine Ex.nil ?_
        with_reducible refine Ex.nil ?_
        exact ihx ρ1 b_text b_pieces b_asked b_spelled b_ends
    conv in (List.drop 6 (fbody 30)) => whnf
    with_reducible refine Ex.cons ?_
    with_reducible refine E1.assign (.inl (by kernel_rfl)) ?_
    with_reducible refine Ev.meths sl_join F.type_str_join ?_
    with_reducible refine Ev.strL (l := []) (by kernel_rfl) ⟨_, rfl, ?_⟩
    with_reducible refine EvL.one ?_
    with_reducible refine Ev.comp (freeOk_of [] (by kernel_rfl) (fun y hy => absurd hy List.not_mem_nil)) (by decide +kernel) (by kernel_rfl) (by decide +kernel) (by kernel_rfl) ?_
    with_reducible refine Ev.var a_text ⟨_, rfl, by rw [List.length_map]; simp only [sizeLine]; omega, ?_⟩
    refine CompP.chars (f := hexT) ?_ ?_
    · intro c hc K' hK'
      with_reducible refine Ev.calld g_quote (by kernel_rfl) (fun h x => ⟨_, _, at_fquote x, rfl⟩) ?_
      with_reducible refine EvL.one ?_
      with_reducible refine Ev.var set_eq ?_
      exact k_quote (k := k + 2) (al_lt (dr.t_al c hc)) hK'
    refine Ca.join (joinOk_map (B := 3) (n := 20) (by simp) (fun c _ => hexT_len c) htl (by decide)) ?_
    rw [jn_cps, jn_nil, flat_eq, hex_enc dr.t_al]
    have b_text := (set_ne (ρ := ρ) (x := Str.ofString "spelled") (y := Str.ofString "text") (d := .str (enc escQ id t)) (by decide +kernel)).trans a_text
    have b_pieces := (set_ne (ρ := ρ) (x := Str.ofString "spelled") (y := Str.ofString "pieces") (d := .str (enc escQ id t)) (by decide +kernel)).trans a_pieces
    have b_spelled : set ρ (Str.ofString "spelled") (.str (enc escQ id t)) (Str.ofString "spelled") = some (.str (enc escQ id t)) := set_eq
    generalize set ρ (Str.ofString "spelled") (.str (enc escQ id t)) = ρ1 at *
    with_reducible refine Ex.cons ?_
    with_reducible refine E1.iteS ?_
    with_reducible refine Tr.cmp ?_
    with_reducible refine Ev.var b_spelled ?_
    with_reducible refine Ev.calld g_lawwritten (by kernel_rfl) (fun h x => ⟨_, _, at_flawwritten x, rfl⟩) ?_
    with_reducible refine EvL.two ?_
    with_reducible refine Ev.var b_text ?_
    with_reducible refine Ev.strL (l := escQ) (by kernel_rfl) ?_
    refine k_written (k := k + 1) (fun c hc => al_lt (dr.t_al c hc)) (by omega) ?_
    refine Co.ne_str ?_
    rw [if_neg (by simp)]
    with_reducible refine Ex.nil ?_
    with_reducible refine Ex.cons ?_
    with_reducible refine E1.assign (.inl (by kernel_rfl)) ?_
    with_reducible refine Ev.meths sl_join F.type_str_join ?_
    with_reducible refine Ev.strL (l := dots) (by kernel_rfl) ⟨_, rfl, ?_⟩
    with_reducible refine EvL.one ?_
    with_reducible refine Ev.comp (freeOk_of [] (by kernel_rfl) (fun y hy => absurd hy List.not_mem_nil)) (by decide +kernel) (by kernel_rfl) (by decide +kernel) (by kernel_rfl) ?_
    with_reducible refine Ev.var b_pieces ⟨_, rfl, by rw [List.length_map]; simp only [sizeLine]; omega, ?_⟩
    refine CompP.strs (f := fun p => p.flatMap hexT) ?_ ?_
    · intro p hp K' hK'
      with_reducible refine Ev.meths sl_join F.type_str_join ?_
      with_reducible refine Ev.strL (l := []) (by kernel_rfl) ⟨_, rfl, ?_⟩
      with_reducible refine EvL.one ?_
      with_reducible refine Ev.comp (freeOk_of [] (by kernel_rfl) (fun y hy => absurd hy List.not_mem_nil)) (by decide +kernel) (by kernel_rfl) (by decide +kernel) (by kernel_rfl) ?_
      have hpl1 := hpl p hp
      with_reducible refine Ev.var (d := .str p) set_eq ⟨_, rfl, by rw [List.length_map]; simp only [sizeLine]; omega, ?_⟩
      refine CompP.chars (f := hexT) ?_ ?_
      · intro c hc K' hK'
        with_reducible refine Ev.calld g_quote (by kernel_rfl) (fun h x => ⟨_, _, at_fquote x, rfl⟩) ?_
        with_reducible refine EvL.one ?_
        with_reducible refine Ev.var set_eq ?_
        exact k_quote (k := k + 2) (al_lt (dr.p_al p hp c hc)) hK'
      refine Ca.join (joinOk_map (B := 3) (n := 40) (by simp) (fun c _ => hexT_len c) hpl1 (by decide)) ?_
      rw [jn_cps, jn_nil, flat_eq]
      exact hK'
    refine Ca.join (joinOk_map (B := 120) (n := 40) (by simp) (fun p hp => Nat.le_trans (flat_len hexT_len p) (by have := hpl p hp; omega)) hpc (by decide)) ?_
    rw [jn_cps, map_al (f := fun p => p.flatMap hexT) (g := enc escQ id) (fun p hp => hex_enc (dr.p_al p hp))]
    have c_text := (set_ne (ρ := ρ1) (x := Str.ofString "asked") (y := Str.ofString "text") (d := .str (dots.intercalate ((p0 :: ps).map (enc escQ id)))) (by decide +kernel)).trans b_text
    have c_pieces := (set_ne (ρ := ρ1) (x := Str.ofString "asked") (y := Str.ofString "pieces") (d := .str (dots.intercalate ((p0 :: ps).map (enc escQ id)))) (by decide +kernel)).trans b_pieces
    have c_spelled := (set_ne (ρ := ρ1) (x := Str.ofString "asked") (y := Str.ofString "spelled") (d := .str (dots.intercalate ((p0 :: ps).map (enc escQ id)))) (by decide +kernel)).trans b_spelled
    have c_asked : set ρ1 (Str.ofString "asked") (.str (dots.intercalate ((p0 :: ps).map (enc escQ id)))) (Str.ofString "asked") = some (.str (dots.intercalate ((p0 :: ps).map (enc escQ id)))) := set_eq
    generalize set ρ1 (Str.ofString "asked") (.str (dots.intercalate ((p0 :: ps).map (enc escQ id)))) = ρ2 at *
    with_reducible refine Ex.cons ?_
    with_reducible refine E1.assign (.inl (by kernel_rfl)) ?_
    with_reducible refine Ev.calld g_lawends (by kernel_rfl) (fun h x => ⟨_, _, at_flawends x, rfl⟩) ?_
    with_reducible refine EvL.three ?_
    with_reducible refine Ev.var c_pieces ?_
    with_reducible refine Ev.var c_text ?_
    with_reducible refine Ev.strL (l := []) (by kernel_rfl) ?_
    simp only [List.length_cons] at hpc
    refine k_ends (k := k) (by omega) (fun c hc => al_lt (dr.t_al c hc)) (by omega) (fun p hp => by have := hpl p hp; omega) ?_
    have d_text := (set_ne (ρ := ρ2) (x := Str.ofString "ends") (y := Str.ofString "text") (d := .list (nats (ends (p0 :: ps) t []))) (by decide +kernel)).trans c_text
    have d_pieces := (set_ne (ρ := ρ2) (x := Str.ofString "ends") (y := Str.ofString "pieces") (d := .list (nats (ends (p0 :: ps) t []))) (by decide +kernel)).trans c_pieces
    have d_spelled := (set_ne (ρ := ρ2) (x := Str.ofString "ends") (y := Str.ofString "spelled") (d := .list (nats (ends (p0 :: ps) t []))) (by decide +kernel)).trans c_spelled
    have d_asked := (set_ne (ρ := ρ2) (x := Str.ofString "ends") (y := Str.ofString "asked") (d := .list (nats (ends (p0 :: ps) t []))) (by decide +kernel)).trans c_asked
    have d_ends : set ρ2 (Str.ofString "ends") (.list (nats (ends (p0 :: ps) t []))) (Str.ofString "ends") = some (.list (nats (ends (p0 :: ps) t []))) := set_eq
    generalize set ρ2 (Str.ofString "ends") (.list (nats (ends (p0 :: ps) t []))) = ρ3 at *
    with_reducible refine Ex.cons ?_
    with_reducible refine E1.for (.inl (by kernel_rfl)) ?_
    with_reducible refine Ev.callt g_range (by kernel_rfl) ?_
    with_reducible refine EvL.one ?_
    with_reducible refine Ev.bin ?_
    with_reducible refine Ev.callb g_len (by kernel_rfl) ?_
    with_reducible refine EvL.one ?_
    with_reducible refine Ev.var d_text ?_
    refine Ca.len_str (by simp only [sizeLine]; omega) ?_
    with_reducible refine Ev.int ?_
    refine Bo.add_int ?_
    rw [show ((t.length : Nat) : Int) + 1 = ((t.length + 1 : Nat) : Int) by omega]
    refine Ca.range ⟨_, rfl, by rw [List.length_map, List.length_range]; simp only [sizeLine]; omega, ?_⟩
    refine loop _ _ (by kernel_rfl) _ ρ3 (fun i hi => by rw [List.mem_range] at hi; omega) d_text d_pieces d_asked d_spelled d_ends ?_
    intro ρ' e1 e2
    exact hrest ρ' e1 e2
end Mine
end
section
open PySem PySem.W PyProof.Rows
set_option Elab.async false
set_option maxRecDepth 100000
set_option maxHeartbeats 4000000
set_option linter.unusedVariables false
namespace Mine
theorem cut_6m2 (q e : List Nat) (hq : q.length = 1) : cut (some (6 : Int)) (some (-2)) ([61, 63] ++ q ++ [63, 113, 63] ++ e ++ [63, 61]) = e := by
  obtain ⟨a, rfl⟩ := List.length_eq_one_iff.mp hq
  have e0 : ([61, 63] ++ [a] ++ [63, 113, 63] ++ e ++ [63, 61] : List Nat) = [61, 63, a, 63, 113, 63] ++ (e ++ [63, 61]) := by simp
  rw [e0]
  generalize hX : ([61, 63, a, 63, 113, 63] ++ (e ++ [63, 61]) : List Nat) = X
  have hl : X.length = e.length + 8 := by rw [← hX]; simp
  unfold cut
  rw [show lowI X.length (some (6 : Int)) = 6 by unfold lowI; simp only; omega, show highI X.length (some (-2)) = e.length + 6 by unfold highI; simp only; omega, ← hX]
  rw [show (6 : Nat) = ([61, 63, a, 63, 113, 63] : List Nat).length from rfl, List.drop_left, show e.length + ([61, 63, a, 63, 113, 63] : List Nat).length - ([61, 63, a, 63, 113, 63] : List Nat).length = e.length by omega, List.take_left]
theorem hdr_cut {p : List Nat} (h : ∀ c ∈ p, c ∈ AlL) : cut (some (6 : Int)) (some (-2)) (hdrE [113] p) = enc escH uH p := by
  unfold hdrE
  cases p with
  | nil => rw [if_pos (by rfl)]; simp [cut, enc]
  | cons c r =>
    rw [if_neg (by simp), cut_6m2 [113] _ rfl, hdr_enc h]
theorem word_take {t : List Nat} (h : ∀ c ∈ t, c ∈ AlL) {n : Nat} (hn : n ≤ (enc escH uH t).length) : cut (some (6 : Int)) (some (6 + (n : Int))) (hdrE [113] t) = (enc escH uH t).take n := by
  rw [show (6 : Int) = ((6 : Nat) : Int) from rfl, show ((6 : Nat) : Int) + (n : Int) = ((6 + n : Nat) : Int) by omega, cut_both, Nat.add_sub_cancel_left]
  unfold hdrE
  cases t with
  | nil => rw [if_pos (by rfl)]; simp [enc]
  | cons c r =>
    rw [if_neg (by simp), hdr_enc h]
    generalize enc escH uH (c :: r) = e at *
    have e0 : ([61, 63] ++ [113] ++ [63, 113, 63] ++ e ++ [63, 61] : List Nat) = [61, 63, 113, 63, 113, 63] ++ (e ++ [63, 61]) := by simp
    rw [e0, show (6 : Nat) = ([61, 63, 113, 63, 113, 63] : List Nat).length from rfl, List.drop_left, List.take_append_of_le_length hn]
theorem spl1_swap (c d : Nat) : ∀ x : List Nat, [d].intercalate (spl1 c x) = x.map fun y => if y = c then d else y
  | [] => rfl
  | y :: r => by
    have ih := spl1_swap c d r
    obtain ⟨p, ps, h⟩ := spl1_ne c r
    unfold spl1
    by_cases e : y = c
    · rw [if_pos e]
      rw [h] at ih ⊢
      rw [List.intercalate_cons_cons, ih, List.map_cons, if_pos e]; rfl
    · rw [if_neg e]
      rw [h] at ih ⊢
      rw [List.map_cons, if_neg e, ← ih]
      cases ps with
      | nil => simp
      | cons q ps => rw [List.intercalate_cons_cons, List.intercalate_cons_cons]; rfl
theorem replace_blank (t : List Nat) : (Txt.replace (S t) (Str.ofString " ") (Str.ofString "_")).cps.toList = t.map uH := by
  have e1 : Str.ofString " " = S [32] := by decide +kernel
  have e2 : Str.ofString "_" = S [95] := by decide +kernel
  rw [e1, e2, show Txt.replace (S t) (S [32]) (S [95]) = Str.join (S [95]) (Txt.split (S t) (S [32])) from StrLaws.replace_one _ _ _, split_tight (by simp) (by decide +kernel) (spl1_tight 32 t), join_S]
  exact spl1_swap 32 95 t
set_option maxHeartbeats 8000000 in
theorem law_seg2 {w : World} {k : Nat} {K : D → Prop} {t p0 : List Nat} {ps : List (List Nat)} (dr : Drawn t p0 ps) (ρ : Rho) (a_text : ρ (Str.ofString "text") = some (.str t)) (a_pieces : ρ (Str.ofString "pieces") = some (.list ((p0 :: ps).map D.str))) (N : Rho → Prop)
    (hrest : ∀ ρ' : Rho, ρ' (Str.ofString "text") = some (.str t) → ρ' (Str.ofString "pieces") = some (.list ((p0 :: ps).map D.str)) → Ex (Gr w) (k + 3) (fscope 30) ρ' ((fbody 30).drop 17) N K) : Ex (Gr w) (k + 3) (fscope 30) ρ ((fbody 30).drop 11) N K := by
    have htl := dr.t_len
    have hpc := dr.p_cnt
    have hps := dr.p_sum
    have hpl := dr.p_len
    have hel := enc_len escH uH t
    have hplen : (plcF escH 0 t).length = (enc escH uH t).length + 1 := plc_len t 0
    have hwl : (hdrE [113] t).length ≤ 100 := by
      unfold hdrE
      split
      · simp
      · rw [hdr_enc dr.t_al]; simp only [List.length_append, List.length_cons, List.length_nil]; omega
    have loop : ∀ (N' : Rho → Prop) (body : List Stmt) (hb : body = forBody ((fbody 30).drop 16)) (l : List Nat) (ρ : Rho), (∀ i ∈ l, i ≤ (enc escH uH t).length) →
        ρ (Str.ofString "text") = some (.str t) → ρ (Str.ofString "pieces") = some (.list ((p0 :: ps).map D.str)) → ρ (Str.ofString "sought") = some (.str (dots.intercalate ((p0 :: ps).map (enc escH uH)))) → ρ (Str.ofString "word") = some (.str (hdrE [113] t)) → ρ (Str.ofString "torn") = some (.list (nats (ends (p0 :: ps) t escH))) → ρ (Str.ofString "places") = some (.list (nats (plcF escH 0 t))) →
        (∀ ρ' : Rho, ρ' (Str.ofString "text") = some (.str t) → ρ' (Str.ofString "pieces") = some (.list ((p0 :: ps).map D.str)) → N' ρ') →
        Lo (Gr w) (k + 3) (fscope 30) (Str.ofString "k") body N' K (l.map fun (i : Nat) => .int i) ρ := by
      intro N' body hb l
      induction l with
      | nil => intro ρ _ h1 h2 _ _ _ _ hN; exact hN ρ h1 h2
      | cons i l ih =>
        intro ρ hil a_text a_pieces a_sought a_word a_torn a_places hN
        have hi := hil i (List.mem_cons_self ..)
        show Ex (Gr w) (k + 3) (fscope 30) (set ρ (Str.ofString "k") (.int i)) body (fun ρ' => Lo (Gr w) (k + 3) (fscope 30) (Str.ofString "k") body N' K (l.map fun (i : Nat) => .int i) ρ') K
        have b_text := (set_ne (ρ := ρ) (x := Str.ofString "k") (y := Str.ofString "text") (d := .int (i : Int)) (by decide +kernel)).trans a_text
        have b_pieces := (set_ne (ρ := ρ) (x := Str.ofString "k") (y := Str.ofString "pieces") (d := .int (i : Int)) (by decide +kernel)).trans a_pieces
        have b_sought := (set_ne (ρ := ρ) (x := Str.ofString "k") (y := Str.ofString "sought") (d := .int (i : Int)) (by decide +kernel)).trans a_sought
        have b_word := (set_ne (ρ := ρ) (x := Str.ofString "k") (y := Str.ofString "word") (d := .int (i : Int)) (by decide +kernel)).trans a_word
        have b_torn := (set_ne (ρ := ρ) (x := Str.ofString "k") (y := Str.ofString "torn") (d := .int (i : Int)) (by decide +kernel)).trans a_torn
        have b_places := (set_ne (ρ := ρ) (x := Str.ofString "k") (y := Str.ofString "places") (d := .int (i : Int)) (by decide +kernel)).trans a_places
        have b_k : set ρ (Str.ofString "k") (.int (i : Int)) (Str.ofString "k") = some (.int (i : Int)) := set_eq
        generalize set ρ (Str.ofString "k") (.int (i : Int)) = ρ1 at *
        have ihx := fun ρ' a b c d e f => ih ρ' (fun j hj => hil j (List.mem_cons_of_mem _ hj)) a b c d e f hN
        have hlt : i < (plcF escH 0 t).length := by omega
        have hget : (nats (plcF escH 0 t))[((i : Nat) : Int).toNat]? = some (.int (((plcF escH 0 t).getD i 0 : Nat) : Int)) := by
          unfold nats
          rw [Int.toNat_natCast, List.map_map, List.getElem?_map, List.getD_eq_getElem?_getD, List.getElem?_eq_getElem hlt]; rfl
        rw [hb] at ihx ⊢
        conv => arg 5; whnf
        with_reducible refine Ex.cons ?_
        with_reducible refine E1.iteS ?_
        with_reducible refine Tr.cmp ?_
        with_reducible refine Ev.calld g_ellipsismatch (by kernel_rfl) (fun h x => ⟨_, _, at_fellipsismatch x, rfl⟩) ?_
        with_reducible refine EvL.two ?_
        with_reducible refine Ev.var b_sought ?_
        with_reducible refine Ev.slice ?_
        with_reducible refine Ev.var b_word ?_
        with_reducible refine EvO.some ?_
        with_reducible refine Ev.int ⟨_, rfl, ?_⟩
        with_reducible refine EvO.some ?_
        with_reducible refine Ev.bin ?_
        with_reducible refine Ev.int ?_
        with_reducible refine Ev.var b_k ?_
        refine Bo.add_int ⟨_, rfl, ?_⟩
        refine Sl.str (by simp only [sizeLine]; omega) ?_
        rw [word_take dr.t_al hi]
        have hsum := enc_sum escH uH (p0 :: ps)
        have hjl := join_len dots ((p0 :: ps).map (enc escH uH))
        rw [List.length_map] at hjl
        have h3 : dots.length = 3 := rfl
        rw [h3] at hjl
        refine k_match (k := k + 2) (p0 := enc escH uH p0) (ps := ps.map (enc escH uH)) (by omega) (by rw [List.length_take]; omega) ?_ ?_ (by rw [List.length_map]; simp only [List.length_cons] at hpc; omega) ?_
        · rw [← List.map_cons]
          refine tight_join _ _ fun p hp => ?_
          rw [← List.map_cons] at hp
          obtain ⟨q, hq, rfl⟩ := List.mem_map.mp hp
          exact hdr_no46 (dr.p_al q hq)
        · intro p hp
          rw [← List.map_cons] at hp
          obtain ⟨q, hq, rfl⟩ := List.mem_map.mp hp
          have := enc_len escH uH q
          have := hpl q hq
          omega
        with_reducible refine Ev.cmp ?_
        with_reducible refine Ev.item ?_
        with_reducible refine Ev.var b_places ?_
        with_reducible refine Ev.var b_k ?_
        refine It.list (by omega) hget (by rw [nats_len]; simp only [sizeLine]; omega) ?_
        with_reducible refine Ev.var b_torn ?_
        unfold nats
        refine Co.in_ints ?_
        refine Co.ne_bool ?_
        rw [contains_cast]
        have hq := askedTorn (k := i) codeH dr.t_al dr.p_al hi
        simp only [List.map_eq_nil_iff]
        rw [List.map_cons] at hq
        rw [hq, if_neg (by simp)]
        with_reducible refine Ex.nil ?_
        with_reducible refine Ex.nil ?_
        exact ihx ρ1 b_text b_pieces b_sought b_word b_torn b_places
    conv in (List.drop 11 (fbody 30)) => whnf
    with_reducible refine Ex.cons ?_
    with_reducible refine E1.assign (.inl (by kernel_rfl)) ?_
    with_reducible refine Ev.calld g_headerencode (by kernel_rfl) (fun h x => ⟨_, _, at_fheaderencode x, rfl⟩) ?_
    with_reducible refine EvL.two ?_
    with_reducible refine Ev.callt g_bytes (by kernel_rfl) ?_
    with_reducible refine EvL.one ?_
    with_reducible refine Ev.comp (freeOk_of [] (by kernel_rfl) (fun y hy => absurd hy List.not_mem_nil)) (by decide +kernel) (by kernel_rfl) (by decide +kernel) (by kernel_rfl) ?_
    with_reducible refine Ev.var a_text ⟨_, rfl, by rw [List.length_map]; simp only [sizeLine]; omega, ?_⟩
    refine CompP.charsInt ?_ ?_
    · intro c hc K' hK'
      with_reducible refine Ev.callb g_ord (by kernel_rfl) ?_
      with_reducible refine EvL.one ?_
      with_reducible refine Ev.var set_eq ?_
      exact Ca.ord hK'
    refine Ca.bytes (fun c hc => al_lt (dr.t_al c hc)) (by simp only [sizeLine]; omega) ?_
    with_reducible refine Ev.strL (l := [113]) (by kernel_rfl) ?_
    refine k_header (k := k + 2) (fun c hc => al_lt (dr.t_al c hc)) (by omega) (by simp) ?_
    have b_text := (set_ne (ρ := ρ) (x := Str.ofString "word") (y := Str.ofString "text") (d := .str (hdrE [113] t)) (by decide +kernel)).trans a_text
    have b_pieces := (set_ne (ρ := ρ) (x := Str.ofString "word") (y := Str.ofString "pieces") (d := .str (hdrE [113] t)) (by decide +kernel)).trans a_pieces
    have b_word : set ρ (Str.ofString "word") (.str (hdrE [113] t)) (Str.ofString "word") = some (.str (hdrE [113] t)) := set_eq
    generalize set ρ (Str.ofString "word") (.str (hdrE [113] t)) = ρ1 at *
    with_reducible refine Ex.cons ?_
    with_reducible refine E1.iteS ?_
    with_reducible refine Tr.cmp ?_
    with_reducible refine Ev.var b_word ?_
    with_reducible refine Ev.mono (K := fun d => d = .str (hdrE [113] t)) ?_ ?_
    · with_reducible refine Ev.ite ?_
      with_reducible refine Tr.cmp ?_
      with_reducible refine Ev.var b_text ?_
      with_reducible refine Ev.strL (l := []) (by kernel_rfl) ?_
      refine Co.ne_str ?_
      by_cases h0 : t = []
      · subst h0
        rw [if_neg (by decide)]
        exact Ev.strL (l := []) (by kernel_rfl) (by unfold hdrE; rw [if_pos (by rfl)])
      · rw [if_pos (by cases t with | nil => exact absurd rfl h0 | cons _ _ => rfl)]
        with_reducible refine Ev.bin ?_
        with_reducible refine Ev.bin ?_
        with_reducible refine Ev.strL (l := [61, 63, 113, 63, 113, 63]) (by kernel_rfl) ?_
        with_reducible refine Ev.calld g_lawwritten (by kernel_rfl) (fun h x => ⟨_, _, at_flawwritten x, rfl⟩) ?_
        with_reducible refine EvL.two ?_
        refine Ev.replace (by decide +kernel) ?_
        with_reducible refine Ev.var b_text ⟨_, rfl, ?_, ?_⟩
        · rw [show (Str.ofString "_").length = 1 by decide +kernel]; omega
        rw [replace_blank]
        with_reducible refine Ev.strL (l := escH) (by kernel_rfl) ?_
        have hlt : ∀ c ∈ t.map uH, c < 256 := by
          intro c hc
          obtain ⟨d, hd, rfl⟩ := List.mem_map.mp hc
          have := al_lt (dr.t_al d hd)
          unfold uH; split <;> omega
        refine k_written (k := k + 1) hlt (by rw [List.length_map]; omega) ?_
        rw [encH_swap dr.t_al]
        refine Bo.add_str (by simp only [List.length_cons, List.length_nil, sizeLine]; omega) ?_
        with_reducible refine Ev.strL (l := [63, 61]) (by kernel_rfl) ?_
        refine Bo.add_str (by simp only [List.length_append, List.length_cons, List.length_nil, sizeLine]; omega) ?_
        unfold hdrE
        rw [if_neg (by simpa using h0), hdr_enc dr.t_al]
        rfl
    intro d hd
    subst hd
    refine Co.ne_str ?_
    rw [if_neg (by simp)]
    with_reducible refine Ex.nil ?_
    with_reducible refine Ex.cons ?_
    with_reducible refine E1.assign (.inl (by kernel_rfl)) ?_
    with_reducible refine Ev.meths sl_join F.type_str_join ?_
    with_reducible refine Ev.strL (l := dots) (by kernel_rfl) ⟨_, rfl, ?_⟩
    with_reducible refine EvL.one ?_
    with_reducible refine Ev.comp (freeOk_of [] (by kernel_rfl) (fun y hy => absurd hy List.not_mem_nil)) (by decide +kernel) (by kernel_rfl) (by decide +kernel) (by kernel_rfl) ?_
    with_reducible refine Ev.var b_pieces ⟨_, rfl, by rw [List.length_map]; simp only [sizeLine]; omega, ?_⟩
    refine CompP.strs (f := enc escH uH) ?_ ?_
    · intro p hp K' hK'
      have hpl1 := hpl p hp
      have hpe := enc_len escH uH p
      with_reducible refine Ev.slice ?_
      with_reducible refine Ev.calld g_headerencode (by kernel_rfl) (fun h x => ⟨_, _, at_fheaderencode x, rfl⟩) ?_
      with_reducible refine EvL.two ?_
      with_reducible refine Ev.callt g_bytes (by kernel_rfl) ?_
      with_reducible refine EvL.one ?_
      with_reducible refine Ev.comp (freeOk_of [] (by kernel_rfl) (fun y hy => absurd hy List.not_mem_nil)) (by decide +kernel) (by kernel_rfl) (by decide +kernel) (by kernel_rfl) ?_
      with_reducible refine Ev.var (d := .str p) set_eq ⟨_, rfl, by rw [List.length_map]; simp only [sizeLine]; omega, ?_⟩
      refine CompP.charsInt ?_ ?_
      · intro c hc K' hK'
        with_reducible refine Ev.callb g_ord (by kernel_rfl) ?_
        with_reducible refine EvL.one ?_
        with_reducible refine Ev.var set_eq ?_
        exact Ca.ord hK'
      refine Ca.bytes (fun c hc => al_lt (dr.p_al p hp c hc)) (by simp only [sizeLine]; omega) ?_
      with_reducible refine Ev.strL (l := [113]) (by kernel_rfl) ?_
      refine k_header (k := k + 2) (fun c hc => al_lt (dr.p_al p hp c hc)) (by omega) (by simp) ?_
      with_reducible refine EvO.some ?_
      with_reducible refine Ev.int ⟨_, rfl, ?_⟩
      with_reducible refine EvO.some ?_
      with_reducible refine Ev.neg ⟨_, rfl, ?_⟩
      refine Sl.str ?_ ?_
      · unfold hdrE
        split
        · simp [sizeLine]
        · rw [hdr_enc (dr.p_al p hp)]; simp only [List.length_append, List.length_cons, List.length_nil, sizeLine]; omega
      rw [hdr_cut (dr.p_al p hp)]
      exact hK'
    refine Ca.join (joinOk_map (B := 120) (n := 40) (by simp) (fun p hp => Nat.le_trans (enc_len escH uH p) (by have := hpl p hp; omega)) hpc (by decide)) ?_
    rw [jn_cps]
    have c_text := (set_ne (ρ := ρ1) (x := Str.ofString "sought") (y := Str.ofString "text") (d := .str (dots.intercalate ((p0 :: ps).map (enc escH uH)))) (by decide +kernel)).trans b_text
    have c_pieces := (set_ne (ρ := ρ1) (x := Str.ofString "sought") (y := Str.ofString "pieces") (d := .str (dots.intercalate ((p0 :: ps).map (enc escH uH)))) (by decide +kernel)).trans b_pieces
    have c_word := (set_ne (ρ := ρ1) (x := Str.ofString "sought") (y := Str.ofString "word") (d := .str (dots.intercalate ((p0 :: ps).map (enc escH uH)))) (by decide +kernel)).trans b_word
    have c_sought : set ρ1 (Str.ofString "sought") (.str (dots.intercalate ((p0 :: ps).map (enc escH uH)))) (Str.ofString "sought") = some (.str (dots.intercalate ((p0 :: ps).map (enc escH uH)))) := set_eq
    generalize set ρ1 (Str.ofString "sought") (.str (dots.intercalate ((p0 :: ps).map (enc escH uH)))) = ρ2 at *
    with_reducible refine Ex.cons ?_
    with_reducible refine E1.assign (.inl (by kernel_rfl)) ?_
    with_reducible refine Ev.calld g_lawplaces (by kernel_rfl) (fun h x => ⟨_, _, at_flawplaces x, rfl⟩) ?_
    with_reducible refine EvL.two ?_
    with_reducible refine Ev.var c_text ?_
    with_reducible refine Ev.strL (l := escH) (by kernel_rfl) ?_
    refine k_places (k := k + 2) (by omega) ?_
    have d_text := (set_ne (ρ := ρ2) (x := Str.ofString "places") (y := Str.ofString "text") (d := .list (nats (plcF escH 0 t))) (by decide +kernel)).trans c_text
    have d_pieces := (set_ne (ρ := ρ2) (x := Str.ofString "places") (y := Str.ofString "pieces") (d := .list (nats (plcF escH 0 t))) (by decide +kernel)).trans c_pieces
    have d_word := (set_ne (ρ := ρ2) (x := Str.ofString "places") (y := Str.ofString "word") (d := .list (nats (plcF escH 0 t))) (by decide +kernel)).trans c_word
    have d_sought := (set_ne (ρ := ρ2) (x := Str.ofString "places") (y := Str.ofString "sought") (d := .list (nats (plcF escH 0 t))) (by decide +kernel)).trans c_sought
    have d_places : set ρ2 (Str.ofString "places") (.list (nats (plcF escH 0 t))) (Str.ofString "places") = some (.list (nats (plcF escH 0 t))) := set_eq
    generalize set ρ2 (Str.ofString "places") (.list (nats (plcF escH 0 t))) = ρ3 at *
    with_reducible refine Ex.cons ?_
    with_reducible refine E1.assign (.inl (by kernel_rfl)) ?_
    with_reducible refine Ev.calld g_lawends (by kernel_rfl) (fun h x => ⟨_, _, at_flawends x, rfl⟩) ?_
    with_reducible refine EvL.three ?_
    with_reducible refine Ev.var d_pieces ?_
    with_reducible refine Ev.var d_text ?_
    with_reducible refine Ev.strL (l := escH) (by kernel_rfl) ?_
    simp only [List.length_cons] at hpc
    refine k_ends (k := k) (by omega) (fun c hc => al_lt (dr.t_al c hc)) (by omega) (fun p hp => by have := hpl p hp; omega) ?_
    have e_text := (set_ne (ρ := ρ3) (x := Str.ofString "torn") (y := Str.ofString "text") (d := .list (nats (ends (p0 :: ps) t escH))) (by decide +kernel)).trans d_text
    have e_pieces := (set_ne (ρ := ρ3) (x := Str.ofString "torn") (y := Str.ofString "pieces") (d := .list (nats (ends (p0 :: ps) t escH))) (by decide +kernel)).trans d_pieces
    have e_word := (set_ne (ρ := ρ3) (x := Str.ofString "torn") (y := Str.ofString "word") (d := .list (nats (ends (p0 :: ps) t escH))) (by decide +kernel)).trans d_word
    have e_sought := (set_ne (ρ := ρ3) (x := Str.ofString "torn") (y := Str.ofString "sought") (d := .list (nats (ends (p0 :: ps) t escH))) (by decide +kernel)).trans d_sought
    have e_places := (set_ne (ρ := ρ3) (x := Str.ofString "torn") (y := Str.ofString "places") (d := .list (nats (ends (p0 :: ps) t escH))) (by decide +kernel)).trans d_places
    have e_torn : set ρ3 (Str.ofString "torn") (.list (nats (ends (p0 :: ps) t escH))) (Str.ofString "torn") = some (.list (nats (ends (p0 :: ps) t escH))) := set_eq
    generalize set ρ3 (Str.ofString "torn") (.list (nats (ends (p0 :: ps) t escH))) = ρ4 at *
    with_reducible refine Ex.cons ?_
    with_reducible refine E1.for (.inl (by kernel_rfl)) ?_
    with_reducible refine Ev.callt g_range (by kernel_rfl) ?_
    with_reducible refine EvL.one ?_
    with_reducible refine Ev.callb g_len (by kernel_rfl) ?_
    with_reducible refine EvL.one ?_
    with_reducible refine Ev.var e_places ?_
    refine Ca.len_list (by rw [nats_len]; simp only [sizeLine]; omega) ?_
    rw [nats_len]
    refine Ca.range ⟨_, rfl, by rw [List.length_map, List.length_range]; simp only [sizeLine]; omega, ?_⟩
    refine loop _ _ (by kernel_rfl) _ ρ4 (fun i hi => by rw [List.mem_range] at hi; omega) e_text e_pieces e_sought e_word e_torn e_places ?_
    intro ρ' e1 e2
    exact hrest ρ' e1 e2
end Mine
end
section
open PySem PySem.W PyProof.Rows
set_option Elab.async false
set_option maxRecDepth 100000
set_option maxHeartbeats 4000000
set_option linter.unusedVariables false
namespace Mine
theorem mem_join {y : List Nat} {c : Nat} : ∀ {ps : List (List Nat)}, c ∈ y.intercalate ps → c ∈ y ∨ ∃ p ∈ ps, c ∈ p
  | [], h => by simp at h
  | [p], h => by simp at h; exact .inr ⟨p, List.mem_cons_self .., h⟩
  | p :: q :: ps, h => by
    rw [List.intercalate_cons_cons, List.mem_append, List.mem_append] at h
    rcases h with (h | h) | h
    · exact .inr ⟨p, List.mem_cons_self .., h⟩
    · exact .inl h
    · rcases mem_join h with h | ⟨r, hr, h⟩
      · exact .inl h
      · exact .inr ⟨r, List.mem_cons_of_mem _ hr, h⟩
theorem Tight.sub {y x : List Nat} {parts : List (List Nat)} (h : Tight y x parts) : ∀ p ∈ parts, (∀ c ∈ p, c ∈ x) ∧ p.length ≤ x.length := by
  induction h with
  | last _ => intro p hp; rw [List.mem_singleton.mp hp]; exact ⟨fun c h => h, Nat.le_refl _⟩
  | @cut p r ps _ _ ih =>
    intro q hq
    rcases List.mem_cons.mp hq with rfl | hq
    · exact ⟨fun c h => by simp [h], by simp only [List.length_append]; omega⟩
    · have := ih q hq
      exact ⟨fun c h => by simp [this.1 c h], by simp only [List.length_append]; omega⟩
theorem Tight.count {y x : List Nat} {parts : List (List Nat)} (hy : 0 < y.length) (h : Tight y x parts) : parts.length ≤ x.length + 1 := by
  induction h with
  | last _ => simp
  | cut _ _ ih => simp only [List.length_cons, List.length_append]; omega
theorem sum_shown (l : List (List Nat)) : ((l.map shown).map List.length).sum = (l.map List.length).sum := by
  induction l with
  | nil => rfl
  | cons p l ih => simp only [List.map_cons, List.sum_cons]; rw [ih, shown_len]
theorem plc_last (t : List Nat) : (plcF escB 0 t).getD (enc escB id t).length 0 = 3 * t.length := by
  have := plc_at (esc := escB) (u := id) t 0 t.length 0 (Nat.le_refl _) (.inl rfl)
  rw [List.take_length, Nat.add_zero] at this
  rw [List.getD_eq_getElem?_getD, this]; simp
set_option maxHeartbeats 8000000 in
theorem law_seg3 {w : World} {k : Nat} {K : D → Prop} {t p0 : List Nat} {ps : List (List Nat)} (dr : Drawn t p0 ps) (hK : K (.bool true)) (ρ : Rho) (a_text : ρ (Str.ofString "text") = some (.str t)) (a_pieces : ρ (Str.ofString "pieces") = some (.list ((p0 :: ps).map D.str))) (N : Rho → Prop) : Ex (Gr w) (k + 3) (fscope 30) ρ ((fbody 30).drop 17) N K := by
    have htl := dr.t_len
    have hpc := dr.p_cnt
    have hps := dr.p_sum
    have hpl := dr.p_len
    have hJ : ∃ J, J = dots.intercalate ((p0 :: ps).map shown) := ⟨_, rfl⟩
    obtain ⟨J, hJ⟩ := hJ
    have hJl : J.length ≤ 160 := by
      have := join_len dots ((p0 :: ps).map shown)
      rw [← hJ, sum_shown, List.length_map] at this
      have h3 : dots.length = 3 := rfl
      rw [h3] at this; omega
    have hJa : ∀ c ∈ J, c ∈ AlB := by
      intro c hc
      rw [hJ] at hc
      rcases mem_join hc with h | ⟨p, hp, h⟩
      · simp at h; subst h; decide
      · obtain ⟨q, hq, rfl⟩ := List.mem_map.mp hp
        exact shown_al (dr.p_al q hq) c h
    have hT := folded_tight J
    obtain ⟨q0, qs, hf⟩ : ∃ q0 qs, folded J = q0 :: qs := by
      cases h : folded J with
      | nil => exact absurd h hT.ne
      | cons a b => exact ⟨a, b, rfl⟩
    have hqs := hT.sub
    have hqc := hT.count (by decide)
    have hTe := tight_enc codeB.toCodeZ (by decide) (by decide) rfl (fun e he hee h hh => (codeB.h6 e he hee h hh).2.1) hT hJa
    rw [hf] at hqs hqc hTe
    simp only [List.length_cons] at hqc
    have hJe := enc_len escB id J
    have loop : ∀ (N' : Rho → Prop) (body : List Stmt) (hb : body = forBody ((fbody 30).drop 19)) (l : List (List Nat)) (ρ : Rho), (∀ x ∈ l, (∀ c ∈ x, c ∈ AlL) ∧ x.length ≤ 21) →
        ρ (Str.ofString "wanted") = some (.str (enc escB id J)) → ρ (Str.ofString "folded") = some (.list ((q0 :: qs).map D.str)) → (∀ ρ' : Rho, N' ρ') →
        Lo (Gr w) (k + 3) (fscope 30) (Str.ofString "told") body N' K (l.map D.str) ρ := by
      intro N' body hb l
      induction l with
      | nil => intro ρ _ _ _ hN; exact hN ρ
      | cons x l ih =>
        intro ρ hxl a_wanted a_folded hN
        obtain ⟨hx, hxn⟩ := hxl x (List.mem_cons_self ..)
        have hsa := shown_al hx
        have hsl := shown_len x
        have hse := enc_len escB id (shown x)
        have hxe := enc_len escB id x
        have hs256 : ∀ c ∈ shown x, c < 256 := fun c hc => by
          have : ∀ d ∈ AlB, d < 256 := by decide
          exact this c (hsa c hc)
        show Ex (Gr w) (k + 3) (fscope 30) (set ρ (Str.ofString "told") (.str x)) body (fun ρ' => Lo (Gr w) (k + 3) (fscope 30) (Str.ofString "told") body N' K (l.map D.str) ρ') K
        have b_wanted := (set_ne (ρ := ρ) (x := Str.ofString "told") (y := Str.ofString "wanted") (d := .str x) (by decide +kernel)).trans a_wanted
        have b_folded := (set_ne (ρ := ρ) (x := Str.ofString "told") (y := Str.ofString "folded") (d := .str x) (by decide +kernel)).trans a_folded
        have b_told : set ρ (Str.ofString "told") (.str x) (Str.ofString "told") = some (.str x) := set_eq
        generalize set ρ (Str.ofString "told") (.str x) = ρ1 at *
        have ihx := fun ρ' a b => ih ρ' (fun j hj => hxl j (List.mem_cons_of_mem _ hj)) a b hN
        rw [hb] at ihx ⊢
        conv => arg 5; whnf
        with_reducible refine Ex.cons ?_
        with_reducible refine E1.assign (.inl (by kernel_rfl)) ?_
        with_reducible refine Ev.calld g_bodyencode (by kernel_rfl) (fun h x => ⟨_, _, at_fbodyencode x, rfl⟩) ?_
        with_reducible refine EvL.one ?_
        with_reducible refine Ev.var b_told ?_
        refine k_bodyE (k := k + 1) hx (by omega) (by omega) ?_
        have c_wanted := (set_ne (ρ := ρ1) (x := Str.ofString "written") (y := Str.ofString "wanted") (d := .str (enc escB id (shown x))) (by decide +kernel)).trans b_wanted
        have c_folded := (set_ne (ρ := ρ1) (x := Str.ofString "written") (y := Str.ofString "folded") (d := .str (enc escB id (shown x))) (by decide +kernel)).trans b_folded
        have c_told := (set_ne (ρ := ρ1) (x := Str.ofString "written") (y := Str.ofString "told") (d := .str (enc escB id (shown x))) (by decide +kernel)).trans b_told
        have c_written : set ρ1 (Str.ofString "written") (.str (enc escB id (shown x))) (Str.ofString "written") = some (.str (enc escB id (shown x))) := set_eq
        generalize set ρ1 (Str.ofString "written") (.str (enc escB id (shown x))) = ρ2 at *
        with_reducible refine Ex.cons ?_
        with_reducible refine E1.assign (.inl (by kernel_rfl)) ?_
        with_reducible refine Ev.calld g_lawshown (by kernel_rfl) (fun h x => ⟨_, _, at_flawshown x, rfl⟩) ?_
        with_reducible refine EvL.one ?_
        with_reducible refine Ev.var c_told ?_
        refine k_shown (k := k + 2) (by omega) ?_
        have d_wanted := (set_ne (ρ := ρ2) (x := Str.ofString "shown") (y := Str.ofString "wanted") (d := .str (shown x)) (by decide +kernel)).trans c_wanted
        have d_folded := (set_ne (ρ := ρ2) (x := Str.ofString "shown") (y := Str.ofString "folded") (d := .str (shown x)) (by decide +kernel)).trans c_folded
        have d_told := (set_ne (ρ := ρ2) (x := Str.ofString "shown") (y := Str.ofString "told") (d := .str (shown x)) (by decide +kernel)).trans c_told
        have d_written := (set_ne (ρ := ρ2) (x := Str.ofString "shown") (y := Str.ofString "written") (d := .str (shown x)) (by decide +kernel)).trans c_written
        have d_shown : set ρ2 (Str.ofString "shown") (.str (shown x)) (Str.ofString "shown") = some (.str (shown x)) := set_eq
        generalize set ρ2 (Str.ofString "shown") (.str (shown x)) = ρ3 at *
        with_reducible refine Ex.cons ?_
        with_reducible refine E1.iteS ?_
        with_reducible refine Tr.cmp ?_
        with_reducible refine Ev.var d_written ?_
        with_reducible refine Ev.calld g_lawwritten (by kernel_rfl) (fun h x => ⟨_, _, at_flawwritten x, rfl⟩) ?_
        with_reducible refine EvL.two ?_
        with_reducible refine Ev.var d_shown ?_
        with_reducible refine Ev.strL (l := escB) (by kernel_rfl) ?_
        refine k_written (k := k + 1) hs256 (by omega) ?_
        refine Co.ne_str ?_
        rw [if_neg (by simp)]
        with_reducible refine Ex.nil ?_
        with_reducible refine Ex.cons ?_
        with_reducible refine E1.iteS ?_
        with_reducible refine Tr.cmp ?_
        with_reducible refine Ev.calld g_ellipsismatch (by kernel_rfl) (fun h x => ⟨_, _, at_fellipsismatch x, rfl⟩) ?_
        with_reducible refine EvL.two ?_
        with_reducible refine Ev.var d_wanted ?_
        with_reducible refine Ev.var d_written ?_
        refine k_match (k := k + 2) (p0 := enc escB id q0) (ps := qs.map (enc escB id)) (by omega) (by omega) hTe ?_ (by rw [List.length_map]; omega) ?_
        · intro p hp
          rw [← List.map_cons] at hp
          obtain ⟨q, hq, rfl⟩ := List.mem_map.mp hp
          have := enc_len escB id q
          have := (hqs q hq).2
          omega
        with_reducible refine Ev.cmp ?_
        with_reducible refine Ev.bin ?_
        with_reducible refine Ev.int ?_
        with_reducible refine Ev.callb g_len (by kernel_rfl) ?_
        with_reducible refine EvL.one ?_
        with_reducible refine Ev.var d_told ?_
        refine Ca.len_str (by simp only [sizeLine]; omega) (Bo.mul_int (IntMulOk.of_left (by decide +kernel)) ?_)
        with_reducible refine Ev.calld g_lawends (by kernel_rfl) (fun h x => ⟨_, _, at_flawends x, rfl⟩) ?_
        with_reducible refine EvL.three ?_
        with_reducible refine Ev.var d_folded ?_
        with_reducible refine Ev.var d_shown ?_
        with_reducible refine Ev.strL (l := escB) (by kernel_rfl) ?_
        refine k_ends (k := k) (by omega) hs256 (by omega) (fun p hp => by have := (hqs p hp).2; omega) ?_
        unfold nats
        refine Co.in_ints ?_
        refine Co.ne_bool ?_
        rw [show (3 : Int) * ((x.length : Nat) : Int) = ((3 * x.length : Nat) : Int) by omega, contains_cast]
        have hq := askedTorn (k := (enc escB id (shown x)).length) codeB hsa (fun p hp c hc => hJa c ((hqs p hp).1 c hc)) (Nat.le_refl _)
        rw [List.take_length, plc_last, hsl] at hq
        simp only [List.map_eq_nil_iff]
        rw [List.map_cons] at hq
        rw [hq, if_neg (by simp)]
        with_reducible refine Ex.nil ?_
        with_reducible refine Ex.nil ?_
        exact ihx ρ3 d_wanted d_folded
    conv in (List.drop 17 (fbody 30)) => whnf
    with_reducible refine Ex.cons ?_
    with_reducible refine E1.assign (.inl (by kernel_rfl)) ?_
    with_reducible refine Ev.meths sl_join F.type_str_join ?_
    with_reducible refine Ev.strL (l := dots) (by kernel_rfl) ⟨_, rfl, ?_⟩
    with_reducible refine EvL.one ?_
    with_reducible refine Ev.comp (freeOk_of [] (by kernel_rfl) (fun y hy => absurd hy List.not_mem_nil)) (by decide +kernel) (by kernel_rfl) (by decide +kernel) (by kernel_rfl) ?_
    with_reducible refine Ev.var a_pieces ⟨_, rfl, by rw [List.length_map]; simp only [sizeLine]; omega, ?_⟩
    refine CompP.strs (f := fun p => enc escB id (shown p)) ?_ ?_
    · intro p hp K' hK'
      have hpl1 := hpl p hp
      have hpb := dr.p_body p hp
      with_reducible refine Ev.calld g_bodyencode (by kernel_rfl) (fun h x => ⟨_, _, at_fbodyencode x, rfl⟩) ?_
      with_reducible refine EvL.one ?_
      with_reducible refine Ev.var set_eq ?_
      exact k_bodyE (k := k + 1) (dr.p_al p hp) (by omega) (by omega) hK'
    refine Ca.join (joinOk_map (B := 120) (n := 40) (by simp) (fun p hp => Nat.le_trans (enc_len escB id (shown p)) (by have := hpl p hp; rw [shown_len]; omega)) hpc (by decide)) ?_
    have hwd : dots.intercalate ((p0 :: ps).map fun p => enc escB id (shown p)) = enc escB id J := by
      rw [hJ, enc_join (by decide) rfl, List.map_map]; rfl
    rw [jn_cps, hwd]
    have b_text := (set_ne (ρ := ρ) (x := Str.ofString "wanted") (y := Str.ofString "text") (d := .str (enc escB id J)) (by decide +kernel)).trans a_text
    have b_pieces := (set_ne (ρ := ρ) (x := Str.ofString "wanted") (y := Str.ofString "pieces") (d := .str (enc escB id J)) (by decide +kernel)).trans a_pieces
    have b_wanted : set ρ (Str.ofString "wanted") (.str (enc escB id J)) (Str.ofString "wanted") = some (.str (enc escB id J)) := set_eq
    generalize set ρ (Str.ofString "wanted") (.str (enc escB id J)) = ρ1 at *
    with_reducible refine Ex.cons ?_
    with_reducible refine E1.assign (.inl (by kernel_rfl)) ?_
    with_reducible refine Ev.calld g_lawfolded (by kernel_rfl) (fun h x => ⟨_, _, at_flawfolded x, rfl⟩) ?_
    with_reducible refine EvL.one ?_
    with_reducible refine Ev.meths sl_join F.type_str_join ?_
    with_reducible refine Ev.strL (l := dots) (by kernel_rfl) ⟨_, rfl, ?_⟩
    with_reducible refine EvL.one ?_
    with_reducible refine Ev.comp (freeOk_of [] (by kernel_rfl) (fun y hy => absurd hy List.not_mem_nil)) (by decide +kernel) (by kernel_rfl) (by decide +kernel) (by kernel_rfl) ?_
    with_reducible refine Ev.var b_pieces ⟨_, rfl, by rw [List.length_map]; simp only [sizeLine]; omega, ?_⟩
    refine CompP.strs (f := shown) ?_ ?_
    · intro p hp K' hK'
      have hpl1 := hpl p hp
      with_reducible refine Ev.calld g_lawshown (by kernel_rfl) (fun h x => ⟨_, _, at_flawshown x, rfl⟩) ?_
      with_reducible refine EvL.one ?_
      with_reducible refine Ev.var (d := .str p) set_eq ?_
      exact k_shown (k := k + 2) (by omega) hK'
    refine Ca.join (joinOk_map (B := 40) (n := 40) (by simp) (fun p hp => by rw [shown_len]; exact hpl p hp) hpc (by decide)) ?_
    rw [jn_cps, ← hJ]
    refine k_folded (k := k + 2) (by omega) ?_
    rw [hf]
    have c_text := (set_ne (ρ := ρ1) (x := Str.ofString "folded") (y := Str.ofString "text") (d := .list ((q0 :: qs).map D.str)) (by decide +kernel)).trans b_text
    have c_wanted := (set_ne (ρ := ρ1) (x := Str.ofString "folded") (y := Str.ofString "wanted") (d := .list ((q0 :: qs).map D.str)) (by decide +kernel)).trans b_wanted
    have c_folded : set ρ1 (Str.ofString "folded") (.list ((q0 :: qs).map D.str)) (Str.ofString "folded") = some (.list ((q0 :: qs).map D.str)) := set_eq
    generalize set ρ1 (Str.ofString "folded") (.list ((q0 :: qs).map D.str)) = ρ2 at *
    with_reducible refine Ex.cons ?_
    with_reducible refine E1.for (.inl (by kernel_rfl)) ?_
    with_reducible refine Ev.tup ?_
    with_reducible refine EvL.two ?_
    with_reducible refine Ev.var c_text ?_
    with_reducible refine Ev.bin ?_
    with_reducible refine Ev.var c_text ?_
    with_reducible refine Ev.strL (l := [32]) (by kernel_rfl) ?_
    refine Bo.add_str (by simp only [List.length_cons, List.length_nil, sizeLine]; omega) ⟨by show 2 ≤ sizeLine; decide, _, rfl, by show 2 ≤ sizeLine; decide, ?_⟩
    refine loop _ _ (by kernel_rfl) [t, t ++ [32]] ρ2 ?_ c_wanted c_folded ?_
    · intro x hx
      simp only [List.mem_cons, List.not_mem_nil, or_false] at hx
      rcases hx with rfl | rfl
      · exact ⟨dr.t_al, by omega⟩
      · refine ⟨fun c hc => ?_, by rw [List.length_append, List.length_singleton]; omega⟩
        rcases List.mem_append.mp hc with q | q
        · exact dr.t_al c q
        · rw [List.mem_singleton.mp q]; decide
    intro ρ'
    with_reducible refine Ex.cons ?_
    with_reducible refine E1.ret ?_
    exact Ev.bool hK
end Mine
end
section
open PySem PySem.W PyProof.Rows
set_option Elab.async false
set_option maxRecDepth 100000
set_option maxHeartbeats 4000000
set_option linter.unusedVariables false
namespace Mine
abbrev Two := List Nat × List Nat
def itemsL : List Two := [([69], [69]), ([46], [46]), ([233], [233]), ([50], [50]), ([32], [32]), ([124], []), ([124], [50]), ([124], [57, 46]), ([124, 57], [233]), ([124, 50, 69, 124], [46]), ([124, 69, 57, 124], [233]), ([69], []), ([124, 57, 124], [233]), ([46, 46, 46], [46, 46]), ([61], [61]), ([61, 69, 57], [233])]
def framesL : List (Two × Two) := [(([69, 124], [69]), ([124, 57], [233])), (([], []), ([], [])), (([124], [46]), ([46, 46, 46], [46, 46])), (([32, 124], [32]), ([124, 32], [32]))]
def tp (a : Two) : D := .tup [.str a.1, .str a.2]
def tq (a : Two × Two) : D := .tup [.str a.1.1, .str a.1.2, .str a.2.1, .str a.2.2]
theorem tp_nol (a : Two) : NoL (tp a) := .tup fun d hd => by
  simp only [List.mem_cons, List.not_mem_nil, or_false] at hd
  rcases hd with rfl | rfl <;> exact .str
theorem Ev.two {G : Gx} {k : Nat} {sc : Scope} {ρ : Rho} {a b : Str} {n₁ n₂ n : Nat} {p₁ p₂ pos : Pos} {t : Two} {K : D → Prop} (ha : a.cps.toList = t.1) (hb : b.cps.toList = t.2) (h : K (tp t))
    (h1 : ∀ env, starEach [.Constant (.str a) n₁ p₁, .Constant (.str b) n₂ p₂] env = (false, eval (.Constant (.str a) n₁ p₁) env) :: starEach [.Constant (.str b) n₂ p₂] env := by intro _; kernel_rfl)
    (h2 : ∀ env, starEach [.Constant (.str b) n₂ p₂] env = (false, eval (.Constant (.str b) n₂ p₂) env) :: starEach [] env := by intro _; kernel_rfl) : Ev G k sc ρ (.Tuple [.Constant (.str a) n₁ p₁, .Constant (.str b) n₂ p₂] n pos) K :=
  Ev.tup (EvL.two (Ev.strL ha (Ev.strL hb ⟨by show 2 ≤ sizeLine; decide, h⟩)) h1 h2)
theorem Ev.quad {G : Gx} {k : Nat} {sc : Scope} {ρ : Rho} {a b c d : Str} {n₁ n₂ n₃ n₄ n : Nat} {p₁ p₂ p₃ p₄ pos : Pos} {t : Two × Two} {K : D → Prop} (ha : a.cps.toList = t.1.1) (hb : b.cps.toList = t.1.2) (hc : c.cps.toList = t.2.1) (hd : d.cps.toList = t.2.2) (h : K (tq t))
    (h1 : ∀ env, starEach [.Constant (.str a) n₁ p₁, .Constant (.str b) n₂ p₂, .Constant (.str c) n₃ p₃, .Constant (.str d) n₄ p₄] env = (false, eval (.Constant (.str a) n₁ p₁) env) :: starEach [.Constant (.str b) n₂ p₂, .Constant (.str c) n₃ p₃, .Constant (.str d) n₄ p₄] env := by intro _; kernel_rfl)
    (h2 : ∀ env, starEach [.Constant (.str b) n₂ p₂, .Constant (.str c) n₃ p₃, .Constant (.str d) n₄ p₄] env = (false, eval (.Constant (.str b) n₂ p₂) env) :: starEach [.Constant (.str c) n₃ p₃, .Constant (.str d) n₄ p₄] env := by intro _; kernel_rfl)
    (h3 : ∀ env, starEach [.Constant (.str c) n₃ p₃, .Constant (.str d) n₄ p₄] env = (false, eval (.Constant (.str c) n₃ p₃) env) :: starEach [.Constant (.str d) n₄ p₄] env := by intro _; kernel_rfl)
    (h4 : ∀ env, starEach [.Constant (.str d) n₄ p₄] env = (false, eval (.Constant (.str d) n₄ p₄) env) :: starEach [] env := by intro _; kernel_rfl) :
    Ev G k sc ρ (.Tuple [.Constant (.str a) n₁ p₁, .Constant (.str b) n₂ p₂, .Constant (.str c) n₃ p₃, .Constant (.str d) n₄ p₄] n pos) K :=
  Ev.tup (EvL.four (Ev.strL ha (Ev.strL hb (Ev.strL hc (Ev.strL hd ⟨by show 4 ≤ sizeLine; decide, h⟩)))) h1 h2 h3 h4)
theorem CompP.twos {G : Gx} {k : Nat} {sc : Scope} {ρ : Rho} {x : Str} {elt : Expr} {f : Two → List Nat} {t : List Two} {K : List D → Prop} (h : ∀ c ∈ t, ∀ K' : D → Prop, K' (.str (f c)) → Ev G k sc (set ρ x (tp c)) elt K') (hK : K ((t.map f).map D.str)) :
    CompP G k sc ρ x [] elt (t.map tp) [] K := by
  refine CompP.mapD (f := fun d => match d with | .tup [.str a, .str b] => .str (f (a, b)) | d => d) ?_ ?_ ?_
  · intro d hd K' hK'
    obtain ⟨c, hc, rfl⟩ := List.mem_map.mp hd
    exact h c hc K' hK'
  · intro d hd
    obtain ⟨c, hc, rfl⟩ := List.mem_map.mp hd
    exact .str
  · rw [List.nil_append, List.map_map]
    rw [List.map_map] at hK
    exact hK
def itm (x : Int) : Two := itemsL.getD (x.fmod 16).toNat ([], [])
theorem itm_mem (x : Int) : itm x ∈ itemsL ∧ 0 ≤ x.fmod 16 ∧ (itemsL.map tp)[(x.fmod 16).toNat]? = some (tp (itm x)) := by
  have h0 := Int.fmod_nonneg_of_pos x (b := 16) (by decide)
  have h1 := Int.fmod_lt_of_pos x (b := 16) (by decide)
  have hl : (x.fmod 16).toNat < itemsL.length := by show _ < 16; omega
  have e : itm x = itemsL[(x.fmod 16).toNat] := by
    unfold itm; rw [List.getD_eq_getElem?_getD, List.getElem?_eq_getElem hl]; rfl
  refine ⟨by rw [e]; exact List.getElem_mem hl, h0, ?_⟩
  rw [e, List.getElem?_map, List.getElem?_eq_getElem hl]; rfl
theorem CompP.picks {G : Gx} {k : Nat} {sc : Scope} {ρ : Rho} {x : Str} {elt : Expr} {t : List Int} {K : List D → Prop} (h : ∀ c ∈ t, ∀ K' : D → Prop, K' (tp (itm c)) → Ev G k sc (set ρ x (.int c)) elt K') (hK : K ((t.map itm).map tp)) :
    CompP G k sc ρ x [] elt (t.map D.int) [] K := by
  refine CompP.mapD (f := fun d => match d with | .int c => tp (itm c) | d => d) ?_ ?_ ?_
  · intro d hd K' hK'
    obtain ⟨c, hc, rfl⟩ := List.mem_map.mp hd
    exact h c hc K' hK'
  · intro d hd
    obtain ⟨c, hc, rfl⟩ := List.mem_map.mp hd
    exact tp_nol _
  · rw [List.nil_append, List.map_map]
    rw [List.map_map] at hK
    exact hK
/-! what is drawn keeps to its bounds -/
theorem spl1_sum (c : Nat) : ∀ x : List Nat, ((spl1 c x).map List.length).sum ≤ x.length
  | [] => Nat.le_refl _
  | d :: r => by
    have ih := spl1_sum c r
    unfold spl1
    split
    · simp only [List.map_cons, List.sum_cons, List.length_cons, List.length_nil]; omega
    · obtain ⟨q, qs, hq⟩ := spl1_ne c r
      rw [hq] at ih ⊢
      simp only [List.map_cons, List.sum_cons, List.length_cons] at ih ⊢; omega
def wt (c : Nat) : List Nat := if c = 124 then [] else cw escB id c
theorem flat_bound {f : Two → List Nat} {g : Nat → List Nat} {B : Nat} (hB : ∀ d ∈ itemsL, ((f d).flatMap g).length ≤ B) : ∀ {dr : List Two}, (∀ d ∈ dr, d ∈ itemsL) → ((dr.flatMap f).flatMap g).length ≤ B * dr.length
  | [], _ => Nat.le_refl _
  | d :: r, h => by
    have h1 := hB d (h d (List.mem_cons_self ..))
    have h2 := flat_bound hB (dr := r) fun e he => h e (List.mem_cons_of_mem _ he)
    rw [List.flatMap_cons, List.flatMap_append, List.length_append, List.length_cons, Nat.mul_add, Nat.mul_one]; omega
theorem len_bound {f : Two → List Nat} {B : Nat} (hB : ∀ d ∈ itemsL, (f d).length ≤ B) {dr : List Two} (h : ∀ d ∈ dr, d ∈ itemsL) : (dr.flatMap f).length ≤ B * dr.length := by
  have e : ∀ l : List Nat, l.flatMap (fun c => [c]) = l := fun l => by
    induction l with
    | nil => rfl
    | cons c l ih => rw [List.flatMap_cons, ih]; rfl
  have := flat_bound (f := f) (g := fun c => [c]) (B := B) (fun d hd => by rw [e]; exact hB d hd) h
  rwa [e] at this
theorem wt_enc {p : List Nat} (h : 124 ∉ p) : p.flatMap wt = enc escB id p := by
  unfold enc
  induction p with
  | nil => rfl
  | cons c r ih =>
    rw [List.flatMap_cons, List.flatMap_cons, ih fun q => h (List.mem_cons_of_mem _ q)]
    congr 1
    unfold wt; rw [if_neg (fun e : c = 124 => h (e ▸ List.mem_cons_self ..))]
theorem drawn_ok {fr : Two × Two} (hf : fr ∈ framesL) {dr : List Two} (hd : ∀ d ∈ dr, d ∈ itemsL) (h7 : dr.length ≤ 7) {p0 : List Nat} {ps : List (List Nat)} (hs : spl1 124 (fr.1.1 ++ dr.flatMap (·.1) ++ fr.2.1) = p0 :: ps) :
    Drawn (fr.1.2 ++ dr.flatMap (·.2) ++ fr.2.2) p0 ps := by
  have f1 : ∀ f ∈ framesL, (∀ c ∈ f.1.2, c ∈ AlL) ∧ (∀ c ∈ f.2.2, c ∈ AlL) ∧ f.1.2.length ≤ 1 ∧ f.2.2.length ≤ 2 ∧ f.1.1.length ≤ 2 ∧ f.2.1.length ≤ 3 ∧ (∀ c ∈ f.1.1, c ∈ 124 :: AlL) ∧ (∀ c ∈ f.2.1, c ∈ 124 :: AlL) ∧ (f.1.1.flatMap wt).length ≤ 3 ∧ (f.2.1.flatMap wt).length ≤ 3 := by decide
  have i1 : ∀ d ∈ itemsL, (∀ c ∈ d.2, c ∈ AlL) ∧ (∀ c ∈ d.1, c ∈ 124 :: AlL) := by decide
  obtain ⟨a1, a2, a3, a4, a5, a6, a7, a8, a9, a10⟩ := f1 fr hf
  have b1 := len_bound (f := (·.1)) (B := 4) (by decide) hd
  have b2 := len_bound (f := (·.2)) (B := 2) (by decide) hd
  have b3 := flat_bound (f := (·.1)) (g := wt) (B := 5) (by decide) hd
  have hX : (fr.1.1 ++ dr.flatMap (·.1) ++ fr.2.1).length ≤ 33 := by simp only [List.length_append]; omega
  have hXw : ((fr.1.1 ++ dr.flatMap (·.1) ++ fr.2.1).flatMap wt).length ≤ 41 := by
    rw [List.flatMap_append, List.flatMap_append]; simp only [List.length_append]; omega
  have hXa : ∀ c ∈ fr.1.1 ++ dr.flatMap (·.1) ++ fr.2.1, c ∈ 124 :: AlL := by
    intro c hc
    rcases List.mem_append.mp hc with hc | hc
    · rcases List.mem_append.mp hc with hc | hc
      · exact a7 c hc
      · obtain ⟨d, h1, h2⟩ := List.mem_flatMap.mp hc
        exact (i1 d (hd d h1)).2 c h2
    · exact a8 c hc
  have hsub := spl1_sub 124 (fr.1.1 ++ dr.flatMap (·.1) ++ fr.2.1)
  have hsum := spl1_sum 124 (fr.1.1 ++ dr.flatMap (·.1) ++ fr.2.1)
  have hcnt := spl1_length 124 (fr.1.1 ++ dr.flatMap (·.1) ++ fr.2.1)
  rw [hs] at hsub hsum hcnt
  refine ⟨?_, ?_, ?_, by omega, by omega, ?_⟩
  · intro c hc
    rcases List.mem_append.mp hc with hc | hc
    · rcases List.mem_append.mp hc with hc | hc
      · exact a1 c hc
      · obtain ⟨d, h1, h2⟩ := List.mem_flatMap.mp hc
        exact (i1 d (hd d h1)).1 c h2
    · exact a2 c hc
  · simp only [List.length_append]; omega
  · intro p hp c hc
    obtain ⟨h1, h2⟩ := hsub p hp
    rcases List.mem_cons.mp (hXa c (h1.subset hc)) with rfl | h
    · exact absurd hc h2
    · exact h
  · intro p hp
    obtain ⟨h1, h2⟩ := hsub p hp
    rw [← wt_enc h2]
    have := flat_sub (f := wt) h1
    omega
theorem frm_mem (x : Int) : ∃ fr ∈ framesL, 0 ≤ x.fmod 4 ∧ (framesL.map tq)[(x.fmod 4).toNat]? = some (tq fr) := by
  have h0 := Int.fmod_nonneg_of_pos x (b := 4) (by decide)
  have h1 := Int.fmod_lt_of_pos x (b := 4) (by decide)
  have hl : (x.fmod 4).toNat < framesL.length := by show _ < 4; omega
  exact ⟨framesL[(x.fmod 4).toNat], List.getElem_mem hl, h0, by rw [List.getElem?_map, List.getElem?_eq_getElem hl]; rfl⟩
set_option maxHeartbeats 8000000 in
theorem k_law {w : World} {k : Nat} {ns : List Int} (hns : ns.length ≤ 1000) {K : D → Prop} (hK : K (.bool true)) : ∀ A s v, AOk (k + 4) A → (Gr w).W s.heap → Rep s.heap v (.list (ns.map D.int)) → wpAny (M (Gr w)) A (call (.ref 115) [v]) (Po s K) No s := by
  refine top_def (o := fobj 30 m2 .none 114) (fd := fdat 30 m2 .none 114) (body := fbody 30) (x := Str.ofString "script") (fun h x => at_flaw x) rfl (fun h x => cd_flaw x) rfl rfl rfl rfl ?_ ?_ ?_ ?_ ?_ ?_
  · intro s v
    exact .of_eq (by kernel_rfl)
  · show (fscope 30).kind = _; kernel_rfl
  · show (fscope 30).isCoroutine = _; kernel_rfl
  · show (fscope 30).isGenerator = _; kernel_rfl
  · show (fscope 30).names.lookup _ = _; kernel_rfl
  · show Ex (Gr w) (k + 3) (fscope 30) _ (fbody 30) _ _
    have a_script : (fun y => (([Str.ofString "script"] : List Str).zip [D.list (ns.map D.int)]).lookup y) (Str.ofString "script") = some (.list (ns.map D.int)) := by kernel_rfl
    generalize (fun y => (([Str.ofString "script"] : List Str).zip [D.list (ns.map D.int)]).lookup y) = ρ at *
    have hrest : ∀ (ρ' : Rho) (N : Rho → Prop) {t p0 : List Nat} {ps : List (List Nat)}, Drawn t p0 ps → ρ' (Str.ofString "text") = some (.str t) → ρ' (Str.ofString "pieces") = some (.list ((p0 :: ps).map D.str)) → Ex (Gr w) (k + 3) (fscope 30) ρ' ((fbody 30).drop 6) N K := by
      intro ρ' N t p0 ps dr e1 e2
      exact law_seg1 dr ρ' e1 e2 N fun ρ2 e1 e2 => law_seg2 dr ρ2 e1 e2 N fun ρ3 e1 e2 => law_seg3 dr hK ρ3 e1 e2 N
    conv in (fbody 30) => whnf
    with_reducible refine Ex.cons ?_
    with_reducible refine E1.assign (.inr (by kernel_rfl)) ?_
    with_reducible refine Ev.mono (K := fun d => d = .list (itemsL.map tp)) ?_ ?_
    · with_reducible refine Ev.list ?_
      with_reducible refine EvL.cons (by intro _; kernel_rfl) ?_
      refine Ev.two (t := ([69], [69])) (by kernel_rfl) (by kernel_rfl) ?_
      with_reducible refine EvL.cons (by intro _; kernel_rfl) ?_
      refine Ev.two (t := ([46], [46])) (by kernel_rfl) (by kernel_rfl) ?_
      with_reducible refine EvL.cons (by intro _; kernel_rfl) ?_
      refine Ev.two (t := ([233], [233])) (by kernel_rfl) (by kernel_rfl) ?_
      with_reducible refine EvL.cons (by intro _; kernel_rfl) ?_
      refine Ev.two (t := ([50], [50])) (by kernel_rfl) (by kernel_rfl) ?_
      with_reducible refine EvL.cons (by intro _; kernel_rfl) ?_
      refine Ev.two (t := ([32], [32])) (by kernel_rfl) (by kernel_rfl) ?_
      with_reducible refine EvL.cons (by intro _; kernel_rfl) ?_
      refine Ev.two (t := ([124], [])) (by kernel_rfl) (by kernel_rfl) ?_
      with_reducible refine EvL.cons (by intro _; kernel_rfl) ?_
      refine Ev.two (t := ([124], [50])) (by kernel_rfl) (by kernel_rfl) ?_
      with_reducible refine EvL.cons (by intro _; kernel_rfl) ?_
      refine Ev.two (t := ([124], [57, 46])) (by kernel_rfl) (by kernel_rfl) ?_
      with_reducible refine EvL.cons (by intro _; kernel_rfl) ?_
      refine Ev.two (t := ([124, 57], [233])) (by kernel_rfl) (by kernel_rfl) ?_
      with_reducible refine EvL.cons (by intro _; kernel_rfl) ?_
      refine Ev.two (t := ([124, 50, 69, 124], [46])) (by kernel_rfl) (by kernel_rfl) ?_
      with_reducible refine EvL.cons (by intro _; kernel_rfl) ?_
      refine Ev.two (t := ([124, 69, 57, 124], [233])) (by kernel_rfl) (by kernel_rfl) ?_
      with_reducible refine EvL.cons (by intro _; kernel_rfl) ?_
      refine Ev.two (t := ([69], [])) (by kernel_rfl) (by kernel_rfl) ?_
      with_reducible refine EvL.cons (by intro _; kernel_rfl) ?_
      refine Ev.two (t := ([124, 57, 124], [233])) (by kernel_rfl) (by kernel_rfl) ?_
      with_reducible refine EvL.cons (by intro _; kernel_rfl) ?_
      refine Ev.two (t := ([46, 46, 46], [46, 46])) (by kernel_rfl) (by kernel_rfl) ?_
      with_reducible refine EvL.cons (by intro _; kernel_rfl) ?_
      refine Ev.two (t := ([61], [61])) (by kernel_rfl) (by kernel_rfl) ?_
      with_reducible refine EvL.cons (by intro _; kernel_rfl) ?_
      refine Ev.two (t := ([61, 69, 57], [233])) (by kernel_rfl) (by kernel_rfl) ?_
      with_reducible refine EvL.nil ?_
      exact ⟨by show 16 ≤ sizeLine; decide, rfl⟩
    intro d hd
    subst hd
    have b_script := (set_ne (ρ := ρ) (x := Str.ofString "items") (y := Str.ofString "script") (d := .list (itemsL.map tp)) (by decide +kernel)).trans a_script
    have b_items : set ρ (Str.ofString "items") (.list (itemsL.map tp)) (Str.ofString "items") = some (.list (itemsL.map tp)) := set_eq
    generalize set ρ (Str.ofString "items") (.list (itemsL.map tp)) = ρ1 at *
    with_reducible refine Ex.cons ?_
    with_reducible refine E1.assign (.inl (by kernel_rfl)) ?_
    with_reducible refine Ev.mono (K := fun d => d = .list (framesL.map tq)) ?_ ?_
    · with_reducible refine Ev.list ?_
      with_reducible refine EvL.cons (by intro _; kernel_rfl) ?_
      refine Ev.quad (t := (([69, 124], [69]), ([124, 57], [233]))) (by kernel_rfl) (by kernel_rfl) (by kernel_rfl) (by kernel_rfl) ?_
      with_reducible refine EvL.cons (by intro _; kernel_rfl) ?_
      refine Ev.quad (t := (([], []), ([], []))) (by kernel_rfl) (by kernel_rfl) (by kernel_rfl) (by kernel_rfl) ?_
      with_reducible refine EvL.cons (by intro _; kernel_rfl) ?_
      refine Ev.quad (t := (([124], [46]), ([46, 46, 46], [46, 46]))) (by kernel_rfl) (by kernel_rfl) (by kernel_rfl) (by kernel_rfl) ?_
      with_reducible refine EvL.cons (by intro _; kernel_rfl) ?_
      refine Ev.quad (t := (([32, 124], [32]), ([124, 32], [32]))) (by kernel_rfl) (by kernel_rfl) (by kernel_rfl) (by kernel_rfl) ?_
      with_reducible refine EvL.nil ?_
      exact ⟨by show 4 ≤ sizeLine; decide, rfl⟩
    intro d hd
    subst hd
    have c_script := (set_ne (ρ := ρ1) (x := Str.ofString "frames") (y := Str.ofString "script") (d := .list (framesL.map tq)) (by decide +kernel)).trans b_script
    have c_items := (set_ne (ρ := ρ1) (x := Str.ofString "frames") (y := Str.ofString "items") (d := .list (framesL.map tq)) (by decide +kernel)).trans b_items
    have c_frames : set ρ1 (Str.ofString "frames") (.list (framesL.map tq)) (Str.ofString "frames") = some (.list (framesL.map tq)) := set_eq
    generalize set ρ1 (Str.ofString "frames") (.list (framesL.map tq)) = ρ2 at *
    with_reducible refine Ex.cons ?_
    with_reducible refine E1.unpack4 (by kernel_rfl) (by kernel_rfl) (by kernel_rfl) (by kernel_rfl) ?_
    with_reducible refine Ev.item ?_
    with_reducible refine Ev.var c_frames ?_
    with_reducible refine Ev.bin ?_
    with_reducible refine Ev.bin ?_
    with_reducible refine Ev.callb g_sum (by kernel_rfl) ?_
    with_reducible refine EvL.one ?_
    with_reducible refine Ev.var c_script ?_
    refine Ca.sum (fun n => ?_)
    with_reducible refine Ev.int ?_
    refine Bo.fdiv_int (by decide) (PyProof.noPylong_small (by decide)) ?_
    with_reducible refine Ev.int ?_
    refine Bo.mod_int (by decide) ?_
    obtain ⟨fr, hfr, hf0, hfg⟩ := frm_mem (n.fdiv 16)
    refine It.list hf0 hfg (by rw [List.length_map]; show 4 ≤ sizeLine; decide) ⟨_, _, _, _, rfl, ?_⟩
    have d_script := (set_ne (ρ := ρ2) (x := Str.ofString "ahead") (y := Str.ofString "script") (d := .str fr.1.1) (by decide +kernel)).trans c_script
    have d_items := (set_ne (ρ := ρ2) (x := Str.ofString "ahead") (y := Str.ofString "items") (d := .str fr.1.1) (by decide +kernel)).trans c_items
    have d_ahead : set ρ2 (Str.ofString "ahead") (.str fr.1.1) (Str.ofString "ahead") = some (.str fr.1.1) := set_eq
    generalize set ρ2 (Str.ofString "ahead") (.str fr.1.1) = ρ3 at *
    have e_script := (set_ne (ρ := ρ3) (x := Str.ofString "head") (y := Str.ofString "script") (d := .str fr.1.2) (by decide +kernel)).trans d_script
    have e_items := (set_ne (ρ := ρ3) (x := Str.ofString "head") (y := Str.ofString "items") (d := .str fr.1.2) (by decide +kernel)).trans d_items
    have e_ahead := (set_ne (ρ := ρ3) (x := Str.ofString "head") (y := Str.ofString "ahead") (d := .str fr.1.2) (by decide +kernel)).trans d_ahead
    have e_head : set ρ3 (Str.ofString "head") (.str fr.1.2) (Str.ofString "head") = some (.str fr.1.2) := set_eq
    generalize set ρ3 (Str.ofString "head") (.str fr.1.2) = ρ4 at *
    have f_script := (set_ne (ρ := ρ4) (x := Str.ofString "behind") (y := Str.ofString "script") (d := .str fr.2.1) (by decide +kernel)).trans e_script
    have f_items := (set_ne (ρ := ρ4) (x := Str.ofString "behind") (y := Str.ofString "items") (d := .str fr.2.1) (by decide +kernel)).trans e_items
    have f_ahead := (set_ne (ρ := ρ4) (x := Str.ofString "behind") (y := Str.ofString "ahead") (d := .str fr.2.1) (by decide +kernel)).trans e_ahead
    have f_head := (set_ne (ρ := ρ4) (x := Str.ofString "behind") (y := Str.ofString "head") (d := .str fr.2.1) (by decide +kernel)).trans e_head
    have f_behind : set ρ4 (Str.ofString "behind") (.str fr.2.1) (Str.ofString "behind") = some (.str fr.2.1) := set_eq
    generalize set ρ4 (Str.ofString "behind") (.str fr.2.1) = ρ5 at *
    have g_script := (set_ne (ρ := ρ5) (x := Str.ofString "tail") (y := Str.ofString "script") (d := .str fr.2.2) (by decide +kernel)).trans f_script
    have g_items := (set_ne (ρ := ρ5) (x := Str.ofString "tail") (y := Str.ofString "items") (d := .str fr.2.2) (by decide +kernel)).trans f_items
    have g_ahead := (set_ne (ρ := ρ5) (x := Str.ofString "tail") (y := Str.ofString "ahead") (d := .str fr.2.2) (by decide +kernel)).trans f_ahead
    have g_head := (set_ne (ρ := ρ5) (x := Str.ofString "tail") (y := Str.ofString "head") (d := .str fr.2.2) (by decide +kernel)).trans f_head
    have g_behind := (set_ne (ρ := ρ5) (x := Str.ofString "tail") (y := Str.ofString "behind") (d := .str fr.2.2) (by decide +kernel)).trans f_behind
    have g_tail : set ρ5 (Str.ofString "tail") (.str fr.2.2) (Str.ofString "tail") = some (.str fr.2.2) := set_eq
    generalize set ρ5 (Str.ofString "tail") (.str fr.2.2) = ρ6 at *
    with_reducible refine Ex.cons ?_
    with_reducible refine E1.assignComp (by kernel_rfl) (freeOk_of [Str.ofString "items"] (by kernel_rfl) (fun y hy => by rw [List.mem_singleton] at hy; subst hy; rw [g_items]; exact Option.isSome_some)) (by decide +kernel) (by kernel_rfl) (by decide +kernel) (by kernel_rfl) ?_ ?hsw1
    case hsw1 => intro env he; cases env; dsimp only at he; subst he; kernel_rfl
    with_reducible refine Ev.slice ?_
    with_reducible refine Ev.var g_script ?_
    with_reducible refine EvO.none ?_
    with_reducible refine EvO.some ?_
    with_reducible refine Ev.int ⟨_, rfl, ?_⟩
    refine Sl.list (by rw [List.length_map]; simp only [sizeLine]; omega) ?_
    rw [show cut none (some (7 : Int)) (ns.map D.int) = (ns.take 7).map D.int by rw [show (7 : Int) = ((7 : Nat) : Int) from rfl, cut_to, List.map_take]]
    have h7 : (ns.take 7).length ≤ 7 := List.length_take_le ..
    refine ⟨_, rfl, by rw [List.length_map]; simp only [sizeLine]; omega, ?_⟩
    refine CompP.picks ?_ ?_
    · intro c hc K' hK'
      obtain ⟨_, hm0, hmg⟩ := itm_mem c
      with_reducible refine Ev.item ?_
      with_reducible refine Ev.var ((set_ne (by decide +kernel)).trans ((inner_get (by kernel_rfl)).trans g_items)) ?_
      with_reducible refine Ev.bin ?_
      with_reducible refine Ev.var set_eq ?_
      with_reducible refine Ev.int ?_
      refine Bo.mod_int (by decide) ?_
      exact It.list hm0 hmg (by rw [List.length_map]; show 16 ≤ sizeLine; decide) hK'
    have hdr : ∀ d ∈ (ns.take 7).map itm, d ∈ itemsL := by
      intro d hd
      obtain ⟨c, _, rfl⟩ := List.mem_map.mp hd
      exact (itm_mem c).1
    have hdl : ((ns.take 7).map itm).length ≤ 7 := by rw [List.length_map]; exact h7
    generalize (ns.take 7).map itm = dr at *
    have h_ahead := (set_ne (ρ := ρ6) (x := Str.ofString "drawn") (y := Str.ofString "ahead") (d := .list (dr.map tp)) (by decide +kernel)).trans g_ahead
    have h_head := (set_ne (ρ := ρ6) (x := Str.ofString "drawn") (y := Str.ofString "head") (d := .list (dr.map tp)) (by decide +kernel)).trans g_head
    have h_behind := (set_ne (ρ := ρ6) (x := Str.ofString "drawn") (y := Str.ofString "behind") (d := .list (dr.map tp)) (by decide +kernel)).trans g_behind
    have h_tail := (set_ne (ρ := ρ6) (x := Str.ofString "drawn") (y := Str.ofString "tail") (d := .list (dr.map tp)) (by decide +kernel)).trans g_tail
    have h_drawn : set ρ6 (Str.ofString "drawn") (.list (dr.map tp)) (Str.ofString "drawn") = some (.list (dr.map tp)) := set_eq
    generalize set ρ6 (Str.ofString "drawn") (.list (dr.map tp)) = ρ7 at *
    obtain ⟨p0, ps, hsp⟩ := spl1_ne 124 (fr.1.1 ++ dr.flatMap (·.1) ++ fr.2.1)
    have dk := drawn_ok hfr hdr hdl hsp
    have f1 : ∀ f ∈ framesL, f.1.1.length ≤ 2 ∧ f.2.1.length ≤ 3 := by decide
    obtain ⟨fa, fb⟩ := f1 fr hfr
    have b1 := len_bound (f := (·.1)) (B := 4) (by decide) hdr
    have htl := dk.t_len
    simp only [List.length_append] at htl
    with_reducible refine Ex.cons ?_
    with_reducible refine E1.assign (.inl (by kernel_rfl)) ?_
    with_reducible refine Ev.meths sl_split F.type_str_split ?_
    with_reducible refine Ev.bin ?_
    with_reducible refine Ev.bin ?_
    with_reducible refine Ev.var h_ahead ?_
    with_reducible refine Ev.meths sl_join F.type_str_join ?_
    with_reducible refine Ev.strL (l := []) (by kernel_rfl) ⟨_, rfl, ?_⟩
    with_reducible refine EvL.one ?_
    with_reducible refine Ev.comp (freeOk_of [] (by kernel_rfl) (fun y hy => absurd hy List.not_mem_nil)) (by decide +kernel) (by kernel_rfl) (by decide +kernel) (by kernel_rfl) ?_
    with_reducible refine Ev.var h_drawn ⟨_, rfl, by rw [List.length_map]; simp only [sizeLine]; omega, ?_⟩
    refine CompP.twos (f := (·.1)) ?_ ?_
    · intro c hc K' hK'
      with_reducible refine Ev.item ?_
      with_reducible refine Ev.var (d := .tup [.str c.1, .str c.2]) set_eq ?_
      with_reducible refine Ev.int ?_
      exact It.tup (by decide) rfl (by show 2 ≤ sizeLine; decide) hK'
    have hB1 : ∀ c ∈ dr, c.1.length ≤ 4 := fun c hc => by
      have : ∀ d ∈ itemsL, d.1.length ≤ 4 ∧ d.2.length ≤ 2 := by decide
      exact (this c (hdr c hc)).1
    have hB2 : ∀ c ∈ dr, c.2.length ≤ 2 := fun c hc => by
      have : ∀ d ∈ itemsL, d.1.length ≤ 4 ∧ d.2.length ≤ 2 := by decide
      exact (this c (hdr c hc)).2
    refine Ca.join (joinOk_map (f := (·.1)) (B := 4) (n := 7) (by simp) hB1 hdl (by decide)) ?_
    rw [jn_cps, jn_nil]
    rw [show (dr.map (·.1)).flatten = dr.flatMap (·.1) from rfl]
    refine Bo.add_str (by simp only [sizeLine]; omega) ?_
    with_reducible refine Ev.var h_behind ?_
    refine Bo.add_str (by simp only [List.length_append, sizeLine]; omega) ⟨_, rfl, ?_⟩
    with_reducible refine EvL.one ?_
    with_reducible refine Ev.strL (l := [124]) (by kernel_rfl) ?_
    refine (CaF.split (ts := p0 :: ps) (by simp) (by simp only [List.length_append, sizeLine]; omega) ?_ ?_).toCa
    · rw [← hsp]; exact split_tight (by simp) (by decide +kernel) (spl1_tight 124 _)
    have i_head := (set_ne (ρ := ρ7) (x := Str.ofString "pieces") (y := Str.ofString "head") (d := .list ((p0 :: ps).map D.str)) (by decide +kernel)).trans h_head
    have i_tail := (set_ne (ρ := ρ7) (x := Str.ofString "pieces") (y := Str.ofString "tail") (d := .list ((p0 :: ps).map D.str)) (by decide +kernel)).trans h_tail
    have i_drawn := (set_ne (ρ := ρ7) (x := Str.ofString "pieces") (y := Str.ofString "drawn") (d := .list ((p0 :: ps).map D.str)) (by decide +kernel)).trans h_drawn
    have i_pieces : set ρ7 (Str.ofString "pieces") (.list ((p0 :: ps).map D.str)) (Str.ofString "pieces") = some (.list ((p0 :: ps).map D.str)) := set_eq
    generalize set ρ7 (Str.ofString "pieces") (.list ((p0 :: ps).map D.str)) = ρ8 at *
    with_reducible refine Ex.cons ?_
    with_reducible refine E1.assign (.inl (by kernel_rfl)) ?_
    with_reducible refine Ev.bin ?_
    with_reducible refine Ev.bin ?_
    with_reducible refine Ev.var i_head ?_
    with_reducible refine Ev.meths sl_join F.type_str_join ?_
    with_reducible refine Ev.strL (l := []) (by kernel_rfl) ⟨_, rfl, ?_⟩
    with_reducible refine EvL.one ?_
    with_reducible refine Ev.comp (freeOk_of [] (by kernel_rfl) (fun y hy => absurd hy List.not_mem_nil)) (by decide +kernel) (by kernel_rfl) (by decide +kernel) (by kernel_rfl) ?_
    with_reducible refine Ev.var i_drawn ⟨_, rfl, by rw [List.length_map]; simp only [sizeLine]; omega, ?_⟩
    refine CompP.twos (f := (·.2)) ?_ ?_
    · intro c hc K' hK'
      with_reducible refine Ev.item ?_
      with_reducible refine Ev.var (d := .tup [.str c.1, .str c.2]) set_eq ?_
      with_reducible refine Ev.int ?_
      exact It.tup (by decide) rfl (by show 2 ≤ sizeLine; decide) hK'
    refine Ca.join (joinOk_map (f := (·.2)) (B := 2) (n := 7) (by simp) hB2 hdl (by decide)) ?_
    rw [jn_cps, jn_nil]
    rw [show (dr.map (·.2)).flatten = dr.flatMap (·.2) from rfl]
    refine Bo.add_str (by simp only [sizeLine]; omega) ?_
    with_reducible refine Ev.var i_tail ?_
    refine Bo.add_str (by simp only [List.length_append, sizeLine]; omega) ?_
    exact hrest _ _ dk set_eq ((set_ne (by decide +kernel)).trans i_pieces)
end Mine
end
section
open PySem PySem.W PyProof.Rows
set_option Elab.async false
set_option maxRecDepth 100000
set_option maxHeartbeats 8000000
set_option linter.unusedVariables false
namespace Mine
theorem well_ints {P : Params} {h : Heap} {a : Addr} {vals : List Value} {ns : List Int} (w1 : Well P h (.ref a) (ofPy (.list (ns.map PyData.int)))) (hL : h.IsList a vals.toArray) (hI : IntsAre vals ns) : Rep h (.ref a) (.list (ns.map D.int)) := by
  generalize hd : ofPy (.list (ns.map PyData.int)) = d at w1
  cases w1 with
  | @list _ vs xs e hxs =>
    obtain ⟨o, ho, hc, n, hdat⟩ := hL
    rw [e] at ho
    cases ho
    have hv : vs.toArray = vals.toArray := by
      have : Data.seq vs.toArray 0 = Data.seq vals.toArray n := hdat
      cases this; rfl
    have hv2 : vs = vals := by simpa using congrArg Array.toList hv
    subst hv2
    exact .list (n := 0) e (intsAre_rep hI)
  | _ => simp [ofPy] at hd
theorem walk : WalkO vq lse (XL vq lvs) HIn (OpenRow.toRowW PySem.Challenge.rw_re0086_01.row) dLaw [] fun f vs => PySem.call f vs := by
  intro w s₀ s₁ mg mb G Y a o pm cd doc dV kV ha hdat hcd hdf hmg hgens args vals as hpre hlay hrd hwl hlo
  obtain ⟨mg', mb', g1, g2, g3⟩ := (Gr w).look Y
  have hg := G.T.g
  have hname : dLaw.name = Str.ofString "law" := by kernel_rfl
  have hnl : mg' (Str.ofString "law") = some (.ref a) := by
    rw [← ns_eq hg g1, ← hname]; exact hmg
  have h115 : a = 115 := by
    obtain ⟨v, r, e | ⟨e, _⟩⟩ := g3 _ _ g_law
    · rw [hnl] at e
      cases e
      cases r; rfl
    · rw [hnl] at e; cases e
  subst h115
  wrow_args hpre hlay hrd hwl hlo
  rename_i hlen _
  rename Well _ _ _ _ => w1
  rename Heap.IsList _ _ _ => hL
  rename IntsAre _ _ => hI
  have rl := well_ints w1 hL hI
  have hl : ((63 : Nat) : Int) < 64 := by decide
  refine wpAny_mono (k_law (k := 0) (K := fun d => d = .bool true) (by omega) rfl callerA s₁ _ ⟨rfl, by decide +kernel, by decide +kernel⟩ Y rl) (fun v s' q => ?_) fun _ _ e => e.elim
  obtain ⟨⟨⟨h', tk, rfl, keep⟩, _⟩, d, rfl, r⟩ := q
  cases r
  refine GoodW.toG ⟨.inl ⟨_, .bool true, [], rfl, raisesW_false (by wrow_none_raised), .bool _, ?_, ?_⟩, keep, rfl, hgens⟩
  · wrow_post
  · exact unshared_nil
theorem all_holds : PySem.Challenge.rw_re0086_01.Holds := headOf walk
end Mine
end
open PySem PySem.W PyProof.Rows
theorem PySem.Challenge.cw_re0086_01_holds : PySem.Challenge.rw_re0086_01.Holds := by
  exact Mine.all_holds
