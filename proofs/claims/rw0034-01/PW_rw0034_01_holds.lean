import PyProof.Rows.All
import Wide.All
import OpenK.AllK
import Wide.FinOn
import Lean
import PySem.Challenge.RW_rw0034_01
set_option Elab.async false
set_option compiler.extract_closed false
section
open PySem PySem.Calls PyProof.Rows
set_option maxRecDepth 100000
set_option linter.unusedVariables false
namespace Mine

noncomputable abbrev PH := Addr → Option Obj

inductive D where
  | none
  | bool (b : Bool)
  | int (i : Int)
  | flt (u : UInt64)
  | str (s : Str)
  | lst (l : List D)
  | tup (l : List D)
  | rng (n : Nat)
  | dct (ks : List Int) (vs : List D)
  | tab (kvs : List (Str × Str))
  | arg (ns : List Int)
  deriving Inhabited

noncomputable abbrev lstO (vs : List Value) (n : Nat) : Obj := { cls := .type "list", data := .seq vs.toArray n }
noncomputable abbrev tupO (vs : List Value) : Obj := { cls := .type "tuple", data := .seq vs.toArray }

mutual
noncomputable def Rp (p : Program) (w : World) (g : PH) : D → Value → Prop
  | .none, v => v = .none
  | .bool b, v => v = .bool b
  | .int i, v => ∃ t, v = .int i t
  | .flt u, v => ∃ t, v = .float u t ∧ t ≠ 0
  | .str s, v => ∃ t, v = .str s t
  | .lst l, v => ∃ a n vs, v = .ref a ∧ g a = some (lstO vs n) ∧ RpL p w g l vs
  | .tup l, v => ∃ a vs, v = .ref a ∧ g a = some (tupO vs) ∧ RpL p w g l vs
  | .rng n, v => ∃ a t u x, v = .ref a ∧ g a = some { cls := .type "range", data := .fields #[.int 0 t, .int n u, .int 1 x] }
  | .dct ks l, v => ∃ a o vs, v = .ref a ∧ g a = some o ∧ a ≠ sysModules ∧ PySem.Obj.IsDictOf (intKind p w) o (ks.zip vs) ∧ ks.length = vs.length ∧ RpL p w g l vs
  | .tab kvs, v => ∃ a, ∃ o, ∃ ts : List Tok, v = .ref a ∧ g a = some o ∧ PySem.Obj.IsDictOf (strKind p w) o ((kvs.zip ts).map fun x => (x.1.1, .str x.1.2 x.2)) ∧ kvs.length = ts.length
  | .arg ns, v => ∃ a o n vs, v = .ref a ∧ g a = some o ∧ o.cls = .type "list" ∧ o.data = .seq (List.toArray vs) n ∧ IntsAre vs ns
noncomputable def RpL (p : Program) (w : World) (g : PH) : List D → List Value → Prop
  | [], vs => vs = []
  | d :: l, vs => ∃ v vs', vs = v :: vs' ∧ Rp p w g d v ∧ RpL p w g l vs'
end

noncomputable def Le (g g' : PH) : Prop := ∀ a o, g a = some o → g' a = some o
theorem Le.refl (g : PH) : Le g g := fun _ _ e => e
theorem Le.trans {a b c : PH} (x : Le a b) (y : Le b c) : Le a c := fun p o e => y p o (x p o e)

section
variable {p : Program} {w : World}
mutual
theorem Rp.mono {g g' : PH} (h : Le g g') : ∀ (d : D) (v : Value), Rp p w g d v → Rp p w g' d v
  | .none, _, x => by simpa [Rp] using x
  | .bool _, _, x => by simpa [Rp] using x
  | .int _, _, x => by simpa [Rp] using x
  | .flt _, _, x => by simpa [Rp] using x
  | .str _, _, x => by simpa [Rp] using x
  | .lst l, _, x => by
    rw [Rp] at x ⊢
    obtain ⟨a, n, vs, e, ho, hl⟩ := x
    exact ⟨a, n, vs, e, h _ _ ho, RpL.mono h l _ hl⟩
  | .tup l, _, x => by
    rw [Rp] at x ⊢
    obtain ⟨a, vs, e, ho, hl⟩ := x
    exact ⟨a, vs, e, h _ _ ho, RpL.mono h l _ hl⟩
  | .rng _, _, x => by
    rw [Rp] at x ⊢
    obtain ⟨a, t, u, y, e, ho⟩ := x
    exact ⟨a, t, u, y, e, h _ _ ho⟩
  | .dct _ l, _, x => by
    rw [Rp] at x ⊢
    obtain ⟨a, o, vs, e, ho, hf, hd, hk, hl⟩ := x
    exact ⟨a, o, vs, e, h _ _ ho, hf, hd, hk, RpL.mono h l _ hl⟩
  | .tab _, _, x => by
    rw [Rp] at x ⊢
    obtain ⟨a, o, ts, e, ho, hd⟩ := x
    exact ⟨a, o, ts, e, h _ _ ho, hd⟩
  | .arg _, _, x => by
    rw [Rp] at x ⊢
    obtain ⟨a, o, n, vs, e, ho, hd⟩ := x
    exact ⟨a, o, n, vs, e, h _ _ ho, hd⟩
theorem RpL.mono {g g' : PH} (h : Le g g') : ∀ (l : List D) (vs : List Value), RpL p w g l vs → RpL p w g' l vs
  | [], _, x => by simpa [RpL] using x
  | d :: l, _, x => by
    rw [RpL] at x ⊢
    obtain ⟨v, vs', e, h1, h2⟩ := x
    exact ⟨v, vs', e, Rp.mono h d v h1, RpL.mono h l vs' h2⟩
end

theorem RpL.nil (g : PH) : RpL p w g [] [] := by rw [RpL]
theorem RpL.cons {g : PH} {d : D} {l : List D} {v : Value} {vs : List Value} (h : Rp p w g d v) (t : RpL p w g l vs) : RpL p w g (d :: l) (v :: vs) := by rw [RpL]; exact ⟨v, vs, rfl, h, t⟩
theorem RpL.one {g : PH} {d : D} {v : Value} (h : Rp p w g d v) : RpL p w g [d] [v] := .cons h (.nil g)
theorem RpL.length {g : PH} : ∀ {l : List D} {vs : List Value}, RpL p w g l vs → vs.length = l.length
  | [], _, x => by rw [RpL] at x; subst x; rfl
  | d :: l, _, x => by
    rw [RpL] at x
    obtain ⟨v, vs', rfl, _, h2⟩ := x
    simp [RpL.length h2]
theorem RpL.get {g : PH} : ∀ {l : List D} {vs : List Value}, RpL p w g l vs → ∀ {i : Nat} {d : D}, l[i]? = some d → ∃ v, vs[i]? = some v ∧ Rp p w g d v
  | [], _, _, i, d, e => by simp at e
  | d :: l, _, x, i, d', e => by
    rw [RpL] at x
    obtain ⟨v, vs', rfl, h1, h2⟩ := x
    cases i with
    | zero => simp at e; subst e; exact ⟨v, rfl, h1⟩
    | succ i => simp at e; simpa using RpL.get h2 e
theorem RpL.getv {g : PH} : ∀ {l : List D} {vs : List Value}, RpL p w g l vs → ∀ {i : Nat} {v : Value}, vs[i]? = some v → ∃ d, l[i]? = some d ∧ Rp p w g d v
  | [], _, x, i, d, e => by rw [RpL] at x; subst x; simp at e
  | d :: l, _, x, i, v', e => by
    rw [RpL] at x
    obtain ⟨v, vs', rfl, h1, h2⟩ := x
    cases i with
    | zero => simp at e; subst e; exact ⟨d, rfl, h1⟩
    | succ i => simp at e; simpa using RpL.getv h2 e
theorem RpL.append {g : PH} : ∀ {l l' : List D} {vs vs' : List Value}, RpL p w g l vs → RpL p w g l' vs' → RpL p w g (l ++ l') (vs ++ vs')
  | [], _, _, _, x, y => by rw [RpL] at x; subst x; simpa using y
  | d :: l, _, _, _, x, y => by
    rw [RpL] at x
    obtain ⟨v, vs', rfl, h1, h2⟩ := x
    exact .cons h1 (RpL.append h2 y)
theorem RpL.of_get {g : PH} : ∀ {l : List D} {vs : List Value}, vs.length = l.length → (∀ (i : Nat) (d : D) (v : Value), l[i]? = some d → vs[i]? = some v → Rp p w g d v) → RpL p w g l vs
  | [], vs, hl, _ => by rw [RpL]; simpa using hl
  | d :: l, [], hl, _ => by simp at hl
  | d :: l, v :: vs, hl, h => .cons (h 0 d v rfl rfl) (RpL.of_get (by simpa using hl) fun i d v e e' => h (i + 1) d v (by simpa using e) (by simpa using e'))
theorem RpL.snoc {g : PH} {l : List D} {vs : List Value} {d : D} {v : Value} (x : RpL p w g l vs) (y : Rp p w g d v) : RpL p w g (l ++ [d]) (vs ++ [v]) := x.append (.one y)

theorem Rp.none_iff {g : PH} {v : Value} : Rp p w g .none v ↔ v = .none := by rw [Rp]
theorem Rp.bool_iff {g : PH} {v : Value} {b : Bool} : Rp p w g (.bool b) v ↔ v = .bool b := by rw [Rp]
theorem Rp.int_iff {g : PH} {v : Value} {i : Int} : Rp p w g (.int i) v ↔ ∃ t, v = .int i t := by rw [Rp]
theorem Rp.flt_iff {g : PH} {v : Value} {u : UInt64} : Rp p w g (.flt u) v ↔ ∃ t, v = .float u t ∧ t ≠ 0 := by rw [Rp]
theorem Rp.str_iff {g : PH} {v : Value} {x : Str} : Rp p w g (.str x) v ↔ ∃ t, v = .str x t := by rw [Rp]
theorem Rp.lst_iff {g : PH} {v : Value} {l : List D} : Rp p w g (.lst l) v ↔ ∃ a n vs, v = .ref a ∧ g a = some (lstO vs n) ∧ RpL p w g l vs := by rw [Rp]
theorem Rp.tup_iff {g : PH} {v : Value} {l : List D} : Rp p w g (.tup l) v ↔ ∃ a vs, v = .ref a ∧ g a = some (tupO vs) ∧ RpL p w g l vs := by rw [Rp]
theorem Rp.rng_iff {g : PH} {v : Value} {n : Nat} : Rp p w g (.rng n) v ↔ ∃ a t u x, v = .ref a ∧ g a = some { cls := .type "range", data := .fields #[.int 0 t, .int n u, .int 1 x] } := by rw [Rp]
theorem Rp.dct_iff {g : PH} {v : Value} {ks : List Int} {l : List D} : Rp p w g (.dct ks l) v ↔ ∃ a o vs, v = .ref a ∧ g a = some o ∧ a ≠ sysModules ∧ PySem.Obj.IsDictOf (intKind p w) o (ks.zip vs) ∧ ks.length = vs.length ∧ RpL p w g l vs := by rw [Rp]
theorem Rp.tab_iff {g : PH} {v : Value} {kvs : List (Str × Str)} : Rp p w g (.tab kvs) v ↔ ∃ a, ∃ o, ∃ ts : List Tok, v = .ref a ∧ g a = some o ∧ PySem.Obj.IsDictOf (strKind p w) o ((kvs.zip ts).map fun x => (x.1.1, .str x.1.2 x.2)) ∧ kvs.length = ts.length := by rw [Rp]
theorem Rp.arg_iff {g : PH} {v : Value} {ns : List Int} : Rp p w g (.arg ns) v ↔ ∃ a o n vs, v = .ref a ∧ g a = some o ∧ o.cls = .type "list" ∧ o.data = .seq (List.toArray vs) n ∧ IntsAre vs ns := by rw [Rp]
theorem Rp.int {g : PH} {i : Int} (t : Tok) : Rp p w g (.int i) (.int i t) := Rp.int_iff.mpr ⟨t, rfl⟩
theorem Rp.flt {g : PH} {u : UInt64} {t : Tok} (ht : t ≠ 0) : Rp p w g (.flt u) (.float u t) := Rp.flt_iff.mpr ⟨t, rfl, ht⟩
theorem Rp.str {g : PH} {x : Str} (t : Tok) : Rp p w g (.str x) (.str x t) := Rp.str_iff.mpr ⟨t, rfl⟩
theorem Rp.bool {g : PH} {b : Bool} : Rp p w g (.bool b) (.bool b) := Rp.bool_iff.mpr rfl
theorem Rp.none {g : PH} : Rp p w g .none .none := Rp.none_iff.mpr rfl
theorem Rp.lst {g : PH} {l : List D} {a : Addr} {vs : List Value} {n : Nat} (h : g a = some (lstO vs n)) (hl : RpL p w g l vs) : Rp p w g (.lst l) (.ref a) := Rp.lst_iff.mpr ⟨a, n, vs, rfl, h, hl⟩
theorem Rp.tup {g : PH} {l : List D} {a : Addr} {vs : List Value} (h : g a = some (tupO vs)) (hl : RpL p w g l vs) : Rp p w g (.tup l) (.ref a) := Rp.tup_iff.mpr ⟨a, vs, rfl, h, hl⟩
end

/-- what is frozen stands in the heap -/
noncomputable def Sub (g : PH) (h : Heap) : Prop := ∀ a o, g a = some o → h.get? a = some o
theorem sub_lt {g : PH} {h : Heap} (S : Sub g h) {a : Addr} {o : Obj} (e : g a = some o) : a < h.objs.size := Heap.lt_size (S _ _ e)

theorem none_of_keep {h h' : Heap} (k : ∀ b o, h.get? b = some o → h'.get? b = some o) {a : Addr} (e : h'.get? a = none) : h.get? a = none := by
  cases q : h.get? a with
  | none => rfl
  | some o => rw [k _ _ q] at e; cases e
theorem get?_size (h : Heap) : h.get? h.objs.size = none := by
  cases q : h.get? h.objs.size with
  | none => rfl
  | some o => exact absurd (Heap.lt_size q) (Nat.lt_irrefl _)

/-- a step that only adds -/
structure Stp (g g' : PH) (s s' : Shared) : Prop where
  le : Le g g'
  sub : Sub g' s'.heap
  fresh : ∀ a o, g' a = some o → g a = some o ∨ s.heap.get? a = none
  keep : ∀ b o, s.heap.get? b = some o → s'.heap.get? b = some o
  same : ∃ h' tk, s' = { s with heap := h', toks := tk }
  tks : s.toks ≤ s'.toks

theorem Stp.refl {g : PH} {s : Shared} (S : Sub g s.heap) : Stp g g s s := ⟨.refl g, S, fun _ _ e => .inl e, fun _ _ e => e, ⟨_, _, rfl⟩, Nat.le_refl _⟩
theorem Stp.trans {g₁ g₂ g₃ : PH} {s₁ s₂ s₃ : Shared} (x : Stp g₁ g₂ s₁ s₂) (y : Stp g₂ g₃ s₂ s₃) : Stp g₁ g₃ s₁ s₃ :=
  ⟨x.le.trans y.le, y.sub, fun a o e => (y.fresh a o e).elim (x.fresh a o) (fun h => .inr (none_of_keep x.keep h)), fun b o e => y.keep b o (x.keep b o e),
   by obtain ⟨h, t, rfl⟩ := x.same; obtain ⟨h', t', rfl⟩ := y.same; exact ⟨h', t', rfl⟩, Nat.le_trans x.tks y.tks⟩
theorem Stp.tok {g : PH} {s : Shared} (S : Sub g s.heap) {t : Nat} (ht : s.toks ≤ t) : Stp g g s { s with toks := t } := ⟨.refl g, S, fun _ _ e => .inl e, fun _ _ e => e, ⟨_, _, rfl⟩, ht⟩
/-- things are made that nobody will look at -/
theorem Stp.grow {g : PH} {s : Shared} {h' : Heap} {t : Nat} (S : Sub g s.heap) (k : ∀ b o, s.heap.get? b = some o → h'.get? b = some o) (ht : s.toks ≤ t) : Stp g g s { s with heap := h', toks := t } :=
  ⟨.refl g, fun a o e => k a o (S a o e), fun _ _ e => .inl e, k, ⟨_, _, rfl⟩, ht⟩

noncomputable def PH.put (g : PH) (a : Addr) (o : Obj) : PH := fun b => if b = a then some o else g b
theorem PH.put_self (g : PH) (a : Addr) (o : Obj) : (g.put a o) a = some o := by simp [PH.put]
theorem PH.put_le {g : PH} {a : Addr} {o : Obj} (h : g a = none) : Le g (g.put a o) := fun b o' e => by
  have : b ≠ a := fun q => by rw [q, h] at e; cases e
  simp [PH.put, this, e]
/-- a new object, frozen at once -/
theorem Stp.new {g : PH} {s : Shared} {h' : Heap} {t : Nat} {a : Addr} {o : Obj} (S : Sub g s.heap) (ha : s.heap.get? a = none) (ho : h'.get? a = some o) (k : ∀ b o, s.heap.get? b = some o → h'.get? b = some o) (ht : s.toks ≤ t) : Stp g (g.put a o) s { s with heap := h', toks := t } := by
  have hn : g a = none := by
    cases e : g a with
    | none => rfl
    | some o' => rw [S _ _ e] at ha; cases ha
  refine ⟨PH.put_le hn, fun b o' e => ?_, fun b o' e => ?_, k, ⟨_, _, rfl⟩, ht⟩
  · unfold PH.put at e
    split at e
    · rename_i q; subst q; cases e; exact ho
    · exact k _ _ (S _ _ e)
  · unfold PH.put at e
    split at e
    · rename_i q; subst q; exact .inr ha
    · exact .inl e

/-- the text's defs -/
structure FD where
  name : Str
  params : Arguments
  body : List Stmt
  scope : Scope
noncomputable def fds (p : Program) : List FD := p.main.body.filterMap fun
  | .FunctionDef name args body _ _ _ scope _ _ _ => some ⟨name, args, body, scope⟩
  | _ => none
noncomputable def consts : List (Str × D) := [("ONE_THIRD", .flt 4599676419421066581), ("ONE_SIXTH", .flt 4595172819793696085), ("TWO_THIRD", .flt 4604180019048437077), ("ELLIPSIS_MARKER", .str "...")]
noncomputable def blts : List Str := ["len", "range", "sum", "min", "max", "sorted", "abs", "int", "set", "zip"]

/-- the code object of the one def that makes a lambda, and its table -/
noncomputable abbrev codA : Addr := 99
noncomputable abbrev tabA : Addr := 97
/-- the text's top, as it stands in the frozen part -/
structure GdAt (p : Program) (w : World) (b : Heap) (mg mb : Str → Option Value) : Prop where
  lim : b.NoLimit
  unbooked : NoneBooked b
  glob : b.Ns mainGlobals mg
  blt : b.Ns builtinsNs mb
  fn : ∀ d ∈ fds p, ∃ a o pm cd doc, mg d.name = some (.ref a) ∧ b.get? a = some o ∧ o.data = .func (docDef d.name d.params d.body d.scope pm cd doc) ∧ b.CodeRec cd d.name
  const : ∀ x ∈ consts, ∃ v, mg x.1 = some v ∧ Rp p w (fun _ => none) x.2 v
  miss : ∀ x ∈ blts, mg x = none
  boot : ∀ x ∈ blts, mb x = bootBuiltins x
  lam : ∀ d ∈ fds p, d.name = "_law_painted" → ∃ a o pm doc, mg d.name = some (.ref a) ∧ b.get? a = some o ∧ o.data = .func (docDef d.name d.params d.body d.scope pm (.ref codA) doc) ∧ b.CodeRec (.ref codA) d.name
  head : PySem.W.CodeHd b codA tabA
  bmain : b.BuiltinsAt mg tabA
noncomputable def Gd (p : Program) (w : World) (g : PH) : Prop := ∃ b mg mb, (∀ a o, b.get? a = some o → g a = some o) ∧ GdAt p w b mg mb
theorem Gd.mono {p : Program} {w : World} {g g' : PH} (x : Gd p w g) (h : Le g g') : Gd p w g' := by
  obtain ⟨b, mg, mb, hb, r⟩ := x
  exact ⟨b, mg, mb, fun a o e => h _ _ (hb a o e), r⟩

/-- a name's value in a frame -/
noncomputable def Has (env : Env) (h : Heap) (x : Str) (v : Value) : Prop :=
  (env.kindOf x = some .local ∧ ∃ m, h.Ns env.locals m ∧ m x = some v) ∨ ((env.kindOf x = some .cell ∨ env.kindOf x = some .free) ∧ ∃ c, env.cells.lookup x = some c ∧ h.IsCell c (some v))
theorem Has.keeps {env : Env} {h h' : Heap} {x : Str} {v : Value} (H : Has env h x v) (k : ∀ b o, h.get? b = some o → h'.get? b = some o) : Has env h' x v := by
  rcases H with ⟨e, m, hn, hm⟩ | ⟨e, c, hc, hv⟩
  · exact .inl ⟨e, m, hn.keeps k, hm⟩
  · exact .inr ⟨e, c, hc, hv.keeps k⟩

noncomputable def known (env : Env) (x : Str) : Prop := (x == (".0" : Str)) = false ∧ (env.kindOf x = some .local ∨ env.kindOf x = some .cell ∨ env.kindOf x = some .free)

structure EOk (p : Program) (w : World) (env : Env) (σ : List (Str × D)) (g : PH) (s : Shared) : Prop where
  sub : Sub g s.heap
  gd : Gd p w g
  tok : 1 ≤ s.toks
  kind : env.scope.kind = .function
  glob : env.globals = mainGlobals
  blt : env.builtins = builtinsNs
  lns : ∃ m, s.heap.Ns env.locals m
  cells : ∀ n c, env.cells.lookup n = some c → ∃ v, s.heap.IsCell c v
  hasc : ∀ x, env.kindOf x = some .cell ∨ env.kindOf x = some .free → (env.cells.lookup x).isSome = true
  vars : ∀ x d, σ.lookup x = some d → known env x → ∃ v, Has env s.heap x v ∧ Rp p w g d v

theorem EOk.step {p : Program} {w : World} {env : Env} {σ : List (Str × D)} {g g' : PH} {s s' : Shared} (O : EOk p w env σ g s) (x : Stp g g' s s') : EOk p w env σ g' s' where
  sub := x.sub
  gd := O.gd.mono x.le
  tok := Nat.le_trans O.tok x.tks
  kind := O.kind
  glob := O.glob
  blt := O.blt
  lns := let ⟨m, hm⟩ := O.lns; ⟨m, hm.keeps x.keep⟩
  cells := fun n c e => let ⟨v, hv⟩ := O.cells n c e; ⟨v, hv.keeps x.keep⟩
  hasc := O.hasc
  vars := fun y d e hk => let ⟨v, hv, hr⟩ := O.vars y d e hk; ⟨v, hv.keeps x.keep, hr.mono x.le⟩

noncomputable def Rm (k : Nat) (A : Around) : Prop := A.handled = none ∧ A.depth + k ≤ 900 ∧ A.units + 10 * k ≤ 9000
theorem Rm.deeper {k : Nat} {A : Around} (h : Rm (k + 1) A) (env : Env) : Rm k (A.deeper env) :=
  ⟨h.1, by have := h.2.1; show A.depth + 1 + k ≤ 900; omega, by have := h.2.2; show A.units + 3 + 10 * k ≤ 9000; omega⟩
theorem Rm.in1 {k : Nat} {A : Around} (h : Rm (k + 1) A) : Rm k A.in1 :=
  ⟨h.1, by have := h.2.1; show A.depth + k ≤ 900; omega, by have := h.2.2; show A.units + 1 + 10 * k ≤ 9000; omega⟩
theorem Rm.room {k : Nat} {A : Around} (h : Rm k A) : A.depth < recursionLimit := by have := h.2.1; show A.depth < 1000; omega
theorem Rm.units {k : Nat} {A : Around} (h : Rm k A) : A.units + 800 < cLine := by have := h.2.2; show A.units + 800 < 9900; omega
theorem Rm.le {j k : Nat} {A : Around} (h : Rm k A) (hj : j ≤ k) : Rm j A := ⟨h.1, by have := h.2.1; omega, by have := h.2.2; omega⟩

/-- the expression yields d -/
structure Ev (p : Program) (k : Nat) (sc : Scope) (σ : List (Str × D)) (e : Expr) (d : D) : Prop where
  go : ∀ (w : World) (A : Around) (env : Env) (g : PH) (s : Shared) (Q : Value → Shared → Prop) (E : Value → Shared → Prop), Rm k A → env.scope = sc → EOk p w env σ g s →
    (∀ v g' s', Stp g g' s s' → Rp p w g' d v → Q v s') → wpAny (model p w) A (eval e env) Q E s
/-- it yields a new thing -/
structure EvN (p : Program) (k : Nat) (sc : Scope) (σ : List (Str × D)) (e : Expr) (d : D) : Prop where
  go : ∀ (w : World) (A : Around) (env : Env) (g : PH) (s : Shared) (Q : Value → Shared → Prop) (E : Value → Shared → Prop), Rm k A → env.scope = sc → EOk p w env σ g s →
    (∀ a g' s', s.heap.get? a = none → Stp g g' s s' → Rp p w g' d (.ref a) → Q (.ref a) s') → wpAny (model p w) A (eval e env) Q E s
theorem EvN.ev {p : Program} {k : Nat} {sc : Scope} {σ : List (Str × D)} {e : Expr} {d : D} (h : EvN p k sc σ e d) : Ev p k sc σ e d :=
  .mk fun w A env g s Q E hA hs O hQ => h.go w A env g s Q E hA hs O fun _ g' s' _ x r => hQ _ g' s' x r
/-- the test yields b -/
structure Et (p : Program) (k : Nat) (sc : Scope) (σ : List (Str × D)) (e : Expr) (b : Bool) : Prop where
  go : ∀ (w : World) (A : Around) (env : Env) (g : PH) (s : Shared) (Q : Bool → Shared → Prop) (E : Value → Shared → Prop), Rm k A → env.scope = sc → EOk p w env σ g s →
    (∀ g' s', Stp g g' s s' → Q b s') → wpAny (model p w) A (isTrue e env (eval e env)) Q E s

theorem Ev.of_eq {p : Program} {k : Nat} {sc : Scope} {σ : List (Str × D)} {e : Expr} {d d' : D} (h : Ev p k sc σ e d) (q : d = d') : Ev p k sc σ e d' := q ▸ h
theorem EvN.of_eq {p : Program} {k : Nat} {sc : Scope} {σ : List (Str × D)} {e : Expr} {d d' : D} (h : EvN p k sc σ e d) (q : d = d') : EvN p k sc σ e d' := q ▸ h
theorem Et.of_eq {p : Program} {k : Nat} {sc : Scope} {σ : List (Str × D)} {e : Expr} {d d' : Bool} (h : Et p k sc σ e d) (q : d = d') : Et p k sc σ e d' := q ▸ h
end Mine
end
section
open PySem PySem.Calls PyProof.Rows
set_option maxRecDepth 100000
set_option linter.unusedVariables false
namespace Mine
section
variable {p : Program} {k : Nat} {sc : Scope} {σ : List (Str × D)}

/-- a binary step on data -/
structure OpD (p : Program) (k : Nat) (t : Value → Value → Sem Value) (a b d : D) : Prop where
  go : ∀ (w : World) (A : Around) (g : PH) (s : Shared) (u v : Value) (Q : Value → Shared → Prop) (E : Value → Shared → Prop), Rm k A → Sub g s.heap → Gd p w g → 1 ≤ s.toks → Rp p w g a u → Rp p w g b v →
    (∀ r g' s', Stp g g' s s' → Rp p w g' d r → Q r s') → wpAny (model p w) A (t u v) Q E s
structure OpD1 (p : Program) (k : Nat) (t : Value → Sem Value) (a d : D) : Prop where
  go : ∀ (w : World) (A : Around) (g : PH) (s : Shared) (u : Value) (Q : Value → Shared → Prop) (E : Value → Shared → Prop), Rm k A → Sub g s.heap → Gd p w g → 1 ≤ s.toks → Rp p w g a u →
    (∀ r g' s', Stp g g' s s' → Rp p w g' d r → Q r s') → wpAny (model p w) A (t u) Q E s

-- constants
theorem ev_int {i : Int} {j : Nat} {pos : Pos} : Ev p k sc σ (.Constant (.int i) j pos) (.int i) := .mk fun w A env g s Q E _ _ O hQ =>
  wpAny_Constant_int (hQ _ g _ (.tok O.sub (Nat.le_succ _)) (.int _))
theorem ev_flt {u : UInt64} {j : Nat} {pos : Pos} : Ev p k sc σ (.Constant (.float u) j pos) (.flt u) := .mk fun w A env g s Q E _ _ O hQ =>
  AutoFloatOps.wpAny_Constant_float (hQ _ g _ (.tok O.sub (Nat.le_succ _)) (.flt (Nat.pos_iff_ne_zero.mp O.tok)))
theorem ev_str {x : Str} {j : Nat} {pos : Pos} : Ev p k sc σ (.Constant (.str x) j pos) (.str x) := .mk fun w A env g s Q E _ _ O hQ =>
  Calls.Constant_str (hQ _ g _ (.tok O.sub (Nat.le_succ _)) (.str _))
theorem ev_bool {b : Bool} {j : Nat} {pos : Pos} : Ev p k sc σ (.Constant (.bool b) j pos) (.bool b) := .mk fun w A env g s Q E _ _ O hQ =>
  PyProof.Rows.Constant_bool (hQ _ g _ (.refl O.sub) .bool)
theorem ev_none {j : Nat} {pos : Pos} : Ev p k sc σ (.Constant .none j pos) .none := .mk fun w A env g s Q E _ _ O hQ =>
  PyProof.Rows.Constant_none (hQ _ g _ (.refl O.sub) .none)

theorem wp_has {M : Model} {A : Around} {env : Env} {s : Shared} {x : Str} {v : Value} {Q : Value → Shared → Prop} {E : Value → Shared → Prop} (hk : env.scope.kind = .function) (H : Has env s.heap x v) (h : Q v s)
    (hn : (x == ("__classdict__" : Str)) = false) : wpAny M A (loadName env x) Q E s := by
  rcases H with ⟨e, m, hm, hv⟩ | ⟨e | e, c, hc, hv⟩
  · exact wpAny_loadName_local hk e hm hv h
  · exact wpAny_loadName_cell hk e hc hv h
  · exact wpAny_loadName_free hk e hc hv h hn

/-- a name of the scope's own, or one of an outer scope's -/
noncomputable def isVar (sc : Scope) (x : Str) : Bool := match sc.names.lookup x with
  | some .local | some .cell | some .free => (x == (".0" : Str)) == false && ((x == ("__classdict__" : Str)) == false && (x == ("__debug__" : Str)) == false)
  | _ => false
theorem isVar.spec {x : Str} {env : Env} (h : isVar env.scope x = true) : known env x ∧ (x == ("__classdict__" : Str)) = false ∧ (x == ("__debug__" : Str)) = false := by
  unfold isVar at h
  unfold known Env.kindOf
  split at h <;> rename_i e
  · simp only [Bool.and_eq_true, beq_iff_eq] at h; exact ⟨⟨h.1, .inl e⟩, h.2⟩
  · simp only [Bool.and_eq_true, beq_iff_eq] at h; exact ⟨⟨h.1, .inr (.inl e)⟩, h.2⟩
  · simp only [Bool.and_eq_true, beq_iff_eq] at h; exact ⟨⟨h.1, .inr (.inr e)⟩, h.2⟩
  · cases h
theorem ev_name {x : Str} {pos : Pos} {d : D} (hl : σ.lookup x = some d) (hv : isVar sc x = true) : Ev p k sc σ (.Name x pos) d := .mk fun w A env g s Q E _ hs O hQ => by
  subst hs
  obtain ⟨h1, h2, h3⟩ := isVar.spec hv
  obtain ⟨v, hH, hr⟩ := O.vars x d hl h1
  exact wpAny_Name (wp_has O.kind hH (hQ _ g _ (.refl O.sub) hr) h2) h3
/-- a constant of the text's top -/
theorem ev_const {x : Str} {pos : Pos} {d : D} (hl : (x, d) ∈ consts) (hv : sc.names.lookup x = some .globalImplicit) (hd : (x == ("__debug__" : Str)) = false) : Ev p k sc σ (.Name x pos) d := .mk fun w A env g s Q E _ hs O hQ => by
  subst hs
  obtain ⟨b, mg, mb, hb, G⟩ := O.gd
  obtain ⟨v, hm, hr⟩ := G.const _ hl
  refine Calls.Name_function_global O.kind hv (Calls.loadGlobal_global (mg := mg) (O.glob ▸ G.glob.keeps fun a o e => O.sub a o (hb a o e)) hm (hQ _ g _ (.refl O.sub) (hr.mono fun _ _ e => by cases e))) hd

-- operations
theorem ev_binop {l r : Expr} {op : Operator} {pos : Pos} {a b d : D} (hl : Ev p k sc σ l a) (hr : Ev p k sc σ r b) (ho : OpD p k (binaryOp op) a b d) : Ev p k sc σ (.BinOp l op r pos) d := .mk fun w A env g s Q E hA hs O hQ => by
  refine wpAny_BinOp (hl.go w A env g s _ E hA hs O fun v₁ g₁ s₁ x₁ r₁ => hr.go w A env g₁ s₁ _ E hA hs (O.step x₁) fun v₂ g₂ s₂ x₂ r₂ => ?_)
  exact ho.go w A g₂ s₂ v₁ v₂ Q E hA x₂.sub (O.gd.mono (x₁.le.trans x₂.le)) (Nat.le_trans O.tok (x₁.trans x₂).tks) (r₁.mono x₂.le) r₂ fun r g' s' x rr => hQ r g' s' ((x₁.trans x₂).trans x) rr
theorem ev_cmp {l r : Expr} {op : CmpOp} {pos : Pos} {a b d : D} (hl : Ev p k sc σ l a) (hr : Ev p k sc σ r b) (ho : OpD p k (compareOp op) a b d) (hm : behindInMarks op r = false := by with_unfolding_all rfl) :
    Ev p k sc σ (.Compare l [op] [r] pos) d := .mk fun w A env g s Q E hA hs O hQ => by
  refine wpAny_Compare1 (hl.go w A env g s _ E hA hs O fun v₁ g₁ s₁ x₁ r₁ => hr.go w A env g₁ s₁ _ E hA hs (O.step x₁) fun v₂ g₂ s₂ x₂ r₂ => ?_) hm
  exact ho.go w A g₂ s₂ v₁ v₂ Q E hA x₂.sub (O.gd.mono (x₁.le.trans x₂.le)) (Nat.le_trans O.tok (x₁.trans x₂).tks) (r₁.mono x₂.le) r₂ fun r g' s' x rr => hQ r g' s' ((x₁.trans x₂).trans x) rr
theorem et_cmp {l r : Expr} {op : CmpOp} {pos : Pos} {a b : D} {c : Bool} (hl : Ev p k sc σ l a) (hr : Ev p k sc σ r b) (ho : OpD p k (compareOp op) a b (.bool c)) (hm : behindInMarks op r = false := by with_unfolding_all rfl) :
    Et p k sc σ (.Compare l [op] [r] pos) c := .mk fun w A env g s Q E hA hs O hQ => by
  refine wpAny_isTrue_Compare1 (hl.go w A env g s _ E hA hs O fun v₁ g₁ s₁ x₁ r₁ => hr.go w A env g₁ s₁ _ E hA hs (O.step x₁) fun v₂ g₂ s₂ x₂ r₂ => ?_) hm
  refine ho.go w A g₂ s₂ v₁ v₂ _ E hA x₂.sub (O.gd.mono (x₁.le.trans x₂.le)) (Nat.le_trans O.tok (x₁.trans x₂).tks) (r₁.mono x₂.le) r₂ fun r g' s' x rr => ?_
  rw [Rp.bool_iff] at rr; subst rr
  exact wpAny_truthy_bool (hQ g' s' ((x₁.trans x₂).trans x))
theorem ev_unary {e : Expr} {op : UnaryOp} {pos : Pos} {a d : D} (hl : Ev p k sc σ e a) (ho : OpD1 p k (unaryOp op) a d) : Ev p k sc σ (.UnaryOp op e pos) d := .mk fun w A env g s Q E hA hs O hQ => by
  refine PyProof.Rows.UnaryOp_ (hl.go w A env g s _ E hA hs O fun v₁ g₁ s₁ x₁ r₁ => ?_)
  exact ho.go w A g₁ s₁ v₁ Q E hA x₁.sub (O.gd.mono x₁.le) (Nat.le_trans O.tok x₁.tks) r₁ fun r g' s' x rr => hQ r g' s' (x₁.trans x) rr

-- tests
theorem et_or_nil {pos : Pos} : Et p k sc σ (.BoolOp .Or [] pos) false := .mk fun w A env g s Q E _ _ O hQ => PyProof.Rows.isTrue_or_nil (hQ g s (.refl O.sub))
theorem et_or {e : Expr} {rest : List Expr} {pos : Pos} {b c : Bool} (h : Et p k sc σ e b) (hr : Et p k sc σ (.BoolOp .Or rest pos) c) : Et p k sc σ (.BoolOp .Or (e :: rest) pos) (b || c) := .mk fun w A env g s Q E hA hs O hQ => by
  refine PyProof.Rows.isTrue_or (h.go w A env g s _ E hA hs O fun g₁ s₁ x₁ => ?_)
  cases b with
  | true => exact hQ g₁ s₁ x₁
  | false => exact hr.go w A env g₁ s₁ Q E hA hs (O.step x₁) fun g₂ s₂ x₂ => hQ g₂ s₂ (x₁.trans x₂)
theorem et_not {e : Expr} {pos : Pos} {b : Bool} (h : Et p k sc σ e b) : Et p k sc σ (.UnaryOp .Not e pos) (!b) := .mk fun w A env g s Q E hA hs O hQ =>
  PyProof.Rows.isTrue_not (h.go w A env g s _ E hA hs O fun g₁ s₁ x₁ => hQ g₁ s₁ x₁)

/-- truth -/
noncomputable def truD : D → Option Bool
  | .bool b => some b
  | .none => some false
  | .str x => if x.length ≤ sizeLine then some (!(x.length == 0)) else none
  | _ => none
theorem wp_truD {w : World} {A : Around} {g : PH} {s : Shared} {v : Value} {d : D} {b : Bool} {Q : Bool → Shared → Prop} {E : Value → Shared → Prop} (hd : truD d = some b) (r : Rp p w g d v) (h : ∀ tk, s.toks ≤ tk → Q b { s with toks := tk }) : wpAny (model p w) A (truthy v) Q E s := by
  cases d with
  | bool c => rw [Rp.bool_iff] at r; subst r; cases hd; exact wpAny_truthy_bool (h s.toks (Nat.le_refl _))
  | none => rw [Rp.none_iff] at r; subst r; cases hd; exact PyProof.Rows.truthy_none (h s.toks (Nat.le_refl _))
  | str x =>
    rw [Rp.str_iff] at r
    obtain ⟨t, rfl⟩ := r
    simp only [truD] at hd
    by_cases hz : x.length ≤ sizeLine
    · rw [if_pos hz] at hd
      cases hd
      have hz' : x.length ≤ 2 ^ 24 := hz
      refine PySem.P.truthy_str (by omega) ?_
      have e : ((x.length : Int) != 0) = !(x.length == 0) := by
        by_cases h0 : x.length = 0
        · simp [h0]
        · have h1 : ((x.length : Int) == 0) = false := by rw [beq_eq_false_iff_ne]; omega
          have h2 : (x.length == 0) = false := by rw [beq_eq_false_iff_ne]; exact h0
          rw [bne, h1, h2]
      rw [e]; exact h _ (by omega)
    · rw [if_neg hz] at hd; cases hd
  | _ => cases hd
theorem et_val {e : Expr} {d : D} {b : Bool} (h : Ev p k sc σ e d) (hd : truD d = some b)
    (he : ∀ env whole, isTrue e env whole = (do let v ← whole; standAt e.pos; holding [v] (truthy v)) := by intro _ _; rfl) : Et p k sc σ e b := .mk fun w A env g s Q E hA hs O hQ =>
  PyProof.Rows.isTrue_plain (h.go w A env g s _ E hA hs O fun v₁ g₁ s₁ x₁ r₁ => wp_truD hd r₁ fun tk htk => hQ g₁ _ (x₁.trans (.tok x₁.sub htk))) (he _ _)
theorem ev_ifexp {t a b : Expr} {pos : Pos} {c : Bool} {d₁ d₂ : D} (ht : Et p k sc σ t c) (ha : c = true → Ev p k sc σ a d₁) (hb : c = false → Ev p k sc σ b d₂) : Ev p k sc σ (.IfExp t a b pos) (if c then d₁ else d₂) := .mk fun w A env g s Q E hA hs O hQ => by
  refine PyProof.Rows.IfExp_ (ht.go w A env g s _ E hA hs O fun g₁ s₁ x₁ => ?_)
  cases c with
  | true => exact (ha rfl).go w A env g₁ s₁ Q E hA hs (O.step x₁) fun v g₂ s₂ x₂ r => hQ v g₂ s₂ (x₁.trans x₂) r
  | false => exact (hb rfl).go w A env g₁ s₁ Q E hA hs (O.step x₁) fun v g₂ s₂ x₂ r => hQ v g₂ s₂ (x₁.trans x₂) r
end
end Mine
end
section
open PySem PySem.Calls PyProof.Rows
set_option maxRecDepth 100000
set_option linter.unusedVariables false
namespace Mine
section
variable {p : Program} {k : Nat}

theorem op_ints {t : Value → Value → Sem Value} {a b d : D} {x y : Int} (ha : a = .int x) (hb : b = .int y)
    (h : ∀ (w : World) (A : Around) (g : PH) (s : Shared) (i j : Tok) (Q : Value → Shared → Prop) (E : Value → Shared → Prop), Rm k A → Sub g s.heap → Gd p w g → 1 ≤ s.toks → (∀ r tk, Rp p w g d r → Q r { s with toks := tk }) → wpAny (model p w) A (t (.int x i) (.int y j)) Q E s) : OpD p k t a b d := by
  subst ha hb
  refine .mk fun w A g s u v Q E hA S G hT r1 r2 hQ => ?_
  rw [Rp.int_iff] at r1 r2
  obtain ⟨i, rfl⟩ := r1
  obtain ⟨j, rfl⟩ := r2
  exact wpAny_with_toks (n := s.toks) (Nat.le_refl _) (h w A g s i j _ _ hA S G hT fun r tk hr hle => hQ r g _ (.tok S hle) hr)
theorem op_flts {t : Value → Value → Sem Value} {a b d : D} {x y : UInt64} (ha : a = .flt x) (hb : b = .flt y)
    (h : ∀ (w : World) (A : Around) (g : PH) (s : Shared) (i j : Tok) (Q : Value → Shared → Prop) (E : Value → Shared → Prop), Rm k A → 1 ≤ s.toks → (∀ r tk, Rp p w g d r → Q r { s with toks := tk }) → wpAny (model p w) A (t (.float x i) (.float y j)) Q E s) : OpD p k t a b d := by
  subst ha hb
  refine .mk fun w A g s u v Q E hA S G hT r1 r2 hQ => ?_
  rw [Rp.flt_iff] at r1 r2
  obtain ⟨i, rfl, _⟩ := r1
  obtain ⟨j, rfl, _⟩ := r2
  exact wpAny_with_toks (n := s.toks) (Nat.le_refl _) (h w A g s i j _ _ hA hT fun r tk hr hle => hQ r g _ (.tok S hle) hr)
theorem op_if {t : Value → Value → Sem Value} {d : D} {x : Int} {y : UInt64}
    (h : ∀ (w : World) (A : Around) (g : PH) (s : Shared) (i j : Tok) (Q : Value → Shared → Prop) (E : Value → Shared → Prop), Rm k A → 1 ≤ s.toks → (∀ r tk, Rp p w g d r → Q r { s with toks := tk }) → wpAny (model p w) A (t (.int x i) (.float y j)) Q E s) : OpD p k t (.int x) (.flt y) d := by
  refine .mk fun w A g s u v Q E hA S G hT r1 r2 hQ => ?_
  rw [Rp.int_iff] at r1
  rw [Rp.flt_iff] at r2
  obtain ⟨i, rfl⟩ := r1
  obtain ⟨j, rfl, _⟩ := r2
  exact wpAny_with_toks (n := s.toks) (Nat.le_refl _) (h w A g s i j _ _ hA hT fun r tk hr hle => hQ r g _ (.tok S hle) hr)
theorem op_fi {t : Value → Value → Sem Value} {d : D} {x : UInt64} {y : Int}
    (h : ∀ (w : World) (A : Around) (g : PH) (s : Shared) (i j : Tok) (Q : Value → Shared → Prop) (E : Value → Shared → Prop), Rm k A → 1 ≤ s.toks → (∀ r tk, Rp p w g d r → Q r { s with toks := tk }) → wpAny (model p w) A (t (.float x i) (.int y j)) Q E s) : OpD p k t (.flt x) (.int y) d := by
  refine .mk fun w A g s u v Q E hA S G hT r1 r2 hQ => ?_
  rw [Rp.flt_iff] at r1
  rw [Rp.int_iff] at r2
  obtain ⟨i, rfl, _⟩ := r1
  obtain ⟨j, rfl⟩ := r2
  exact wpAny_with_toks (n := s.toks) (Nat.le_refl _) (h w A g s i j _ _ hA hT fun r tk hr hle => hQ r g _ (.tok S hle) hr)
theorem op_strs {t : Value → Value → Sem Value} {a b d : D} {x y : Str} (ha : a = .str x) (hb : b = .str y)
    (h : ∀ (w : World) (A : Around) (g : PH) (s : Shared) (i j : Tok) (Q : Value → Shared → Prop) (E : Value → Shared → Prop), Rm k A → 1 ≤ s.toks → (∀ r tk, Rp p w g d r → Q r { s with toks := tk }) → wpAny (model p w) A (t (.str x i) (.str y j)) Q E s) : OpD p k t a b d := by
  subst ha hb
  refine .mk fun w A g s u v Q E hA S G hT r1 r2 hQ => ?_
  rw [Rp.str_iff] at r1 r2
  obtain ⟨i, rfl⟩ := r1
  obtain ⟨j, rfl⟩ := r2
  exact wpAny_with_toks (n := s.toks) (Nat.le_refl _) (h w A g s i j _ _ hA hT fun r tk hr hle => hQ r g _ (.tok S hle) hr)

section
variable {x y : Int}
theorem o_add : OpD p k (binaryOp .Add) (.int x) (.int y) (.int (x + y)) := op_ints rfl rfl fun w A g s i j Q E _ _ _ hT h => PySem.P.add_int (h _ _ (.int _))
theorem o_sub : OpD p k (binaryOp .Sub) (.int x) (.int y) (.int (x - y)) := op_ints rfl rfl fun w A g s i j Q E _ _ _ hT h => PySem.P.sub_int (h _ _ (.int _))
theorem o_mul (hm : IntMulOk x y) : OpD p k (binaryOp .Mult) (.int x) (.int y) (.int (x * y)) := op_ints rfl rfl fun w A g s i j Q E _ _ _ hT h => PySem.P.mul_int (h _ _ (.int _)) hm
theorem o_mod (hy : y ≠ 0) : OpD p k (binaryOp .Mod) (.int x) (.int y) (.int (x.fmod y)) := op_ints rfl rfl fun w A g s i j Q E _ _ _ hT h => PyProof.Rows.mod_int' hy (h _ _ (.int _))
theorem o_fdiv (hy : y ≠ 0) (hs : y.natAbs < 1073741824) : OpD p k (binaryOp .FloorDiv) (.int x) (.int y) (.int (x.fdiv y)) := op_ints rfl rfl fun w A g s i j Q E _ _ _ hT h => PyProof.Rows.floordiv_int hy (h _ _ (.int _)) (.inl (PyProof.noPylong_small hs))
theorem o_pow2 (h0 : 0 ≤ y) (h1 : y < 1000) : OpD p k (binaryOp .Pow) (.int 2) (.int y) (.int (2 ^ y.toNat)) := op_ints rfl rfl fun w A g s i j Q E _ _ _ hT h => by
  by_cases hy : y = 0
  · subst hy
    refine AutoIntOps.pow_0 (by decide) (by decide) ?_
    exact h _ _ (.int _)
  · refine AutoIntOps.pow_4 h0 (by simpa using hy) (by decide) (by decide) ?_ (h _ _ (.int _))
    have : Builtin.Int.intBits 2 = 2 := by decide +kernel
    rw [this]
    unfold Builtin.Int.intTooBig
    have e : (bitsLine : Int) = 134217728 := by decide +kernel
    simp only [decide_eq_true_eq, e]
    first | omega | (simp; omega)
theorem o_lt : OpD p k (compareOp .Lt) (.int x) (.int y) (.bool (decide (x < y))) := op_ints rfl rfl fun w A g s i j Q E _ _ _ hT h => PySem.P.lt_int (h _ s.toks .bool)
theorem o_gt : OpD p k (compareOp .Gt) (.int x) (.int y) (.bool (decide (y < x))) := op_ints rfl rfl fun w A g s i j Q E _ _ _ hT h => PySem.P.gt_int (h _ s.toks .bool)
theorem o_ge : OpD p k (compareOp .GtE) (.int x) (.int y) (.bool (decide (y ≤ x))) := op_ints rfl rfl fun w A g s i j Q E _ _ _ hT h => PySem.P.ge_int (h _ s.toks .bool)
theorem o_eq : OpD p k (compareOp .Eq) (.int x) (.int y) (.bool (x == y)) := op_ints rfl rfl fun w A g s i j Q E _ _ _ hT h => PySem.P.eq_int (h _ s.toks .bool)
theorem o_ne : OpD p k (compareOp .NotEq) (.int x) (.int y) (.bool (x != y)) := op_ints rfl rfl fun w A g s i j Q E _ _ _ hT h => PySem.P.ne_int (h _ s.toks .bool)
theorem o_neg : OpD1 p k (unaryOp .USub) (.int x) (.int (-x)) := .mk fun w A g s u Q E hA S G hT r hQ => by
  rw [Rp.int_iff] at r; obtain ⟨i, rfl⟩ := r
  exact PySem.P.neg_int (hQ _ g _ (.tok S (Nat.le_succ _)) (.int _))
theorem o_iadd : OpD p k (inplaceOp .Add) (.int x) (.int y) (.int (x + y)) := op_ints rfl rfl fun w A g s i j Q E _ _ _ hT h => PySem.P.iadd_int (h _ _ (.int _))
theorem o_isub : OpD p k (inplaceOp .Sub) (.int x) (.int y) (.int (x - y)) := op_ints rfl rfl fun w A g s i j Q E _ _ _ hT h => PySem.P.isub_int (h _ _ (.int _))
end
section
variable {x y : UInt64}
theorem f_add : OpD p k (binaryOp .Add) (.flt x) (.flt y) (.flt (Float64.add x y)) := op_flts rfl rfl fun w A g s i j Q E _ hT h => PyProof.Rows.add_float (h _ _ (.flt (Nat.pos_iff_ne_zero.mp hT)))
theorem f_sub : OpD p k (binaryOp .Sub) (.flt x) (.flt y) (.flt (Float64.sub x y)) := op_flts rfl rfl fun w A g s i j Q E _ hT h => PyProof.Rows.sub_float (h _ _ (.flt (Nat.pos_iff_ne_zero.mp hT)))
theorem f_mul : OpD p k (binaryOp .Mult) (.flt x) (.flt y) (.flt (Float64.mul x y)) := op_flts rfl rfl fun w A g s i j Q E _ hT h => PyProof.Rows.mul_float (h _ _ (.flt (Nat.pos_iff_ne_zero.mp hT)))
theorem f_div (hz : Float64.isZero y = false) : OpD p k (binaryOp .Div) (.flt x) (.flt y) (.flt (Float64.div x y)) := op_flts rfl rfl fun w A g s i j Q E _ hT h => AutoFloatOps.truediv_1 (by rw [hz]; decide) (h _ _ (.flt (Nat.pos_iff_ne_zero.mp hT)))
theorem f_mod (hz : Float64.isZero y = false) : OpD p k (binaryOp .Mod) (.flt x) (.flt y) (.flt (Float64.divmod x y).2) := op_flts rfl rfl fun w A g s i j Q E _ hT h => AutoFloatOps.mod_1 (by rw [hz]; decide) (h _ _ (.flt (Nat.pos_iff_ne_zero.mp hT)))
theorem f_lt : OpD p k (compareOp .Lt) (.flt x) (.flt y) (.bool (Float64.cmp x y == some .lt)) := op_flts rfl rfl fun w A g s i j Q E _ hT h => AutoFloatOps.lt_0 (h _ s.toks .bool)
theorem f_gt : OpD p k (compareOp .Gt) (.flt x) (.flt y) (.bool (Float64.cmp x y == some .gt)) := op_flts rfl rfl fun w A g s i j Q E _ hT h => AutoFloatOps.gt_0 (h _ s.toks .bool)
theorem f_le : OpD p k (compareOp .LtE) (.flt x) (.flt y) (.bool (Float64.cmp x y == some .lt || Float64.cmp x y == some .eq)) := op_flts rfl rfl fun w A g s i j Q E _ hT h => AutoFloatOps.le_0 (h _ s.toks .bool)
theorem f_ge : OpD p k (compareOp .GtE) (.flt x) (.flt y) (.bool (Float64.cmp x y == some .gt || Float64.cmp x y == some .eq)) := op_flts rfl rfl fun w A g s i j Q E _ hT h => AutoFloatOps.ge_0 (h _ s.toks .bool)
theorem f_eq : OpD p k (compareOp .Eq) (.flt x) (.flt y) (.bool (Float64.cmp x y == some .eq)) := op_flts rfl rfl fun w A g s i j Q E _ hT h => AutoFloatOps.eq_0 (h _ s.toks .bool)
theorem fi_sub {n : Int} (hn : n.natAbs < 2 ^ 1023) : OpD p k (binaryOp .Sub) (.flt x) (.int n) (.flt (Float64.sub x (Float64.ofInt n))) := op_fi fun w A g s i j Q E _ hT h => PyProof.Rows.sub_fi_fits hn (h _ _ (.flt (Nat.pos_iff_ne_zero.mp hT)))
theorem if_div {n : Int} (hi : Float64.isInf (Float64.ofInt n) = false) (hz : Float64.isZero y = false) : OpD p k (binaryOp .Div) (.int n) (.flt y) (.flt (Float64.div (Float64.ofInt n) y)) := op_if fun w A g s i j Q E _ hT h =>
  AutoFloatOps.truediv_if_2 (by rw [hi]; decide) (by rw [hz]; decide) (h _ _ (.flt (Nat.pos_iff_ne_zero.mp hT)))
end
section
variable {x y : Str}
theorem s_in : OpD p k (compareOp .In) (.str y) (.str x) (.bool (Txt.contains x y)) := op_strs rfl rfl fun w A g s i j Q E _ hT h => SB.contains (h _ s.toks .bool)
theorem s_notIn : OpD p k (compareOp .NotIn) (.str y) (.str x) (.bool (!Txt.contains x y)) := op_strs rfl rfl fun w A g s i j Q E _ hT h => SB.notContains (h _ s.toks .bool)
theorem s_eq : OpD p k (compareOp .Eq) (.str x) (.str y) (.bool (x == y)) := op_strs rfl rfl fun w A g s i j Q E _ hT h => SeqAt.RcAt.str_str x i y j p w E Q (h _ s.toks .bool)
end
/-- «is not», of bools -/
theorem b_isNot {x y : Bool} : OpD p k (compareOp .IsNot) (.bool x) (.bool y) (.bool (x != y)) := .mk fun w A g s u v Q E hA S G hT r1 r2 hQ => by
  rw [Rp.bool_iff] at r1 r2; subst r1 r2
  refine wpAny_isNot_plain rfl (hQ _ g _ (.refl S) (Rp.bool_iff.mpr ?_))
  cases x <;> cases y <;> rfl
end
end Mine
end
section
open PySem PySem.Calls PyProof.Rows
set_option maxRecDepth 100000
set_option linter.unusedVariables false
namespace Mine
section
variable {p : Program} {k : Nat} {sc : Scope} {σ : List (Str × D)}

/-- the expressions yield ds, one after another -/
structure Evs (p : Program) (k : Nat) (sc : Scope) (σ : List (Str × D)) (es : List Expr) (ds : List D) : Prop where
  go : ∀ (w : World) (A : Around) (env : Env) (g : PH) (s : Shared) (pos : Pos) (Q : List Value → Shared → Prop) (E : Value → Shared → Prop), Rm k A → env.scope = sc → EOk p w env σ g s →
    (∀ vs g' s', Stp g g' s s' → RpL p w g' ds vs → Q vs s') → wpAny (model p w) A (spliced (backTo pos (starEach es env))) Q E s
theorem evs_nil : Evs p k sc σ [] [] := .mk fun w A env g s pos Q E _ _ O hQ => PyProof.Rows.spliced_none (hQ [] g s (.refl O.sub) (.nil g))
theorem evs_cons {e : Expr} {es : List Expr} {d : D} {ds : List D} (h : Ev p k sc σ e d) (hr : Evs p k sc σ es ds) (he : ∀ env, starEach (e :: es) env = (false, eval e env) :: starEach es env := by intro _; rfl) : Evs p k sc σ (e :: es) (d :: ds) := .mk fun w A env g s pos Q E hA hs O hQ =>
  PyProof.Rows.spliced_more (h.go w A env g s _ E hA hs O fun v g₁ s₁ x₁ r₁ => hr.go w A env g₁ s₁ pos _ E hA hs (O.step x₁) fun vs g₂ s₂ x₂ r₂ => hQ _ g₂ s₂ (x₁.trans x₂) (.cons (r₁.mono x₂.le) r₂)) (he env)
theorem evs_eq {es : List Expr} {ds ds' : List D} (h : Evs p k sc σ es ds) (q : ds = ds') : Evs p k sc σ es ds' := q ▸ h

theorem put_new {w : World} {g g' : PH} {s s' : Shared} {o : Obj} (x : Stp g g' s s') (hf : o.isFreed = false) :
    Stp g (g'.put s'.heap.objs.size o) s { s' with heap := s'.heap.push o } ∧ (g'.put s'.heap.objs.size o) s'.heap.objs.size = some o ∧ Le g' (g'.put s'.heap.objs.size o) := by
  have y : Stp g' (g'.put s'.heap.objs.size o) s' { s' with heap := s'.heap.push o, toks := s'.toks } := Stp.new x.sub (get?_size _) (Heap.get?_push_size _ hf) (fun b o e => Heap.get?_push_of_some _ e) (Nat.le_refl _)
  exact ⟨x.trans y, PH.put_self _ _ _, y.le⟩

theorem ev_list {es : List Expr} {ds : List D} {pos : Pos} (h : Evs p k sc σ es ds) (hz : ds.length ≤ sizeLine) : EvN p k sc σ (.List es pos) (.lst ds) := .mk fun w A env g s Q E hA hs O hQ => by
  refine PyProof.Rows.List_ (h.go w A env g s pos _ E hA hs O fun vs g₁ s₁ x₁ r₁ => ?_)
  refine wpAny_newList ?_ (by rw [r₁.length]; exact hz)
  obtain ⟨y, e, l⟩ := put_new (w := w) (o := lstO vs 0) x₁ rfl
  exact hQ _ _ _ (none_of_keep x₁.keep (get?_size _)) y (.lst e (r₁.mono l))
theorem ev_tuple {es : List Expr} {ds : List D} {j : Nat} {pos : Pos} (h : Evs p k sc σ es ds) (hz : ds.length ≤ sizeLine) : EvN p k sc σ (.Tuple es j pos) (.tup ds) := .mk fun w A env g s Q E hA hs O hQ => by
  refine PyProof.Rows.Tuple_ (h.go w A env g s pos _ E hA hs O fun vs g₁ s₁ x₁ r₁ => ?_)
  refine wpAny_newTuple ?_ (by rw [r₁.length]; exact hz)
  obtain ⟨y, e, l⟩ := put_new (w := w) (o := tupO vs) x₁ rfl
  exact hQ _ _ _ (none_of_keep x₁.keep (get?_size _)) y (.tup e (r₁.mono l))

theorem Rp.isL {w : World} {g : PH} {h : Heap} {l : List D} {v : Value} (r : Rp p w g (.lst l) v) (S : Sub g h) : ∃ a n vs, v = .ref a ∧ g a = some (lstO vs n) ∧ h.IsList a vs.toArray ∧ RpL p w g l vs ∧ h.get? a = some (lstO vs n) := by
  rw [Rp.lst_iff] at r
  obtain ⟨a, n, vs, e, hg, hl⟩ := r
  exact ⟨a, n, vs, e, hg, ⟨_, S _ _ hg, rfl, n, rfl⟩, hl, S _ _ hg⟩
theorem Rp.isT {w : World} {g : PH} {h : Heap} {l : List D} {v : Value} (r : Rp p w g (.tup l) v) (S : Sub g h) : ∃ a vs, v = .ref a ∧ g a = some (tupO vs) ∧ h.IsTuple a vs.toArray ∧ RpL p w g l vs ∧ h.get? a = some (tupO vs) := by
  rw [Rp.tup_iff] at r
  obtain ⟨a, vs, e, hg, hl⟩ := r
  exact ⟨a, vs, e, hg, ⟨_, S _ _ hg, rfl, 0, rfl⟩, hl, S _ _ hg⟩

theorem l_add {a b : List D} (hz : a.length + b.length ≤ sizeLine) : OpD p k (binaryOp .Add) (.lst a) (.lst b) (.lst (a ++ b)) := .mk fun w A g s u v Q E hA S G hT r1 r2 hQ => by
  obtain ⟨x, n, vs, rfl, hx, hl, hr, ho⟩ := r1.isL S
  obtain ⟨y, m, us, rfl, hy, hl', hr', ho'⟩ := r2.isL S
  refine PySem.P.add_list (items := vs.toArray) (items2 := us.toArray) ho ho' ?_ (by simp [hr.length, hr'.length, hz])
  obtain ⟨z, e, l⟩ := put_new (w := w) (o := lstO (vs ++ us) 0) (.refl S) rfl
  have q : ({ cls := .type "list", data := .seq (vs.toArray ++ us.toArray) } : Obj) = lstO (vs ++ us) 0 := by simp [lstO]
  rw [q]
  exact hQ _ _ _ z (.lst e ((hr.append hr').mono l))

theorem wp_isSame_flt {M : Model} {A : Around} {E : Value → Shared → Prop} {s : Shared} {y z : UInt64} {u v : Tok} {Q : Bool → Shared → Prop} (hu : u ≠ 0) (hv : v ≠ 0) (hb : NoneBooked s.heap)
    (hq : ∀ b, (b = true → y ≠ z → u = v) → Q b s) : wpAny M A (isSame (.float y u) (.float z v)) Q E s := by
  have h0 : (u == 0 || v == 0) = false := by simp [hu, hv]
  show wpAny M A (isSame.created (y == z && !Float64.isNaN y) u v) Q E s
  unfold isSame.created
  refine wpAny_ite ?_
  split
  · rename_i h; rw [h0] at h; exact absurd h Bool.false_ne_true
  refine wpAny_ite ?_
  split
  · rename_i h; exact wpAny_pure (hq _ fun _ _ => beq_iff_eq.mp h)
  refine wpAny_ite ?_
  split
  · exact wpAny_pure (hq _ fun h => nomatch h)
  · rename_i hne
    have hyz : y = z := by
      have : (y == z && !Float64.isNaN y) = true := by simpa using hne
      exact beq_iff_eq.mp (Bool.and_eq_true_iff.mp this).1
    refine wpAny_bind (wpAny_sharingNotTold_none hb ?_)
    first | rw [if_neg Bool.false_ne_true] | simp only [Bool.false_eq_true, if_false]
    refine wpAny_bind (wpAny_sharingNotTold_none hb ?_)
    first | rw [if_neg Bool.false_ne_true] | simp only [Bool.false_eq_true, if_false]
    exact wpAny_bind (wpAny_rule (wpAny_bind (wpAny_askSetting (wpAny_pure (hq _ fun _ h => absurd hyz h)))))

theorem Gd.booked {w : World} {g : PH} {h : Heap} (G : Gd p w g) (S : Sub g h) : NoneBooked h := by
  obtain ⟨b, mg, mb, hb, G⟩ := G
  obtain ⟨mc, hn, hk⟩ := G.unbooked
  exact ⟨mc, hn.keeps fun a o e => S a o (hb a o e), hk⟩
theorem Gd.nolimit {w : World} {g : PH} {h : Heap} (G : Gd p w g) (S : Sub g h) : h.NoLimit := by
  obtain ⟨b, mg, mb, hb, G⟩ := G
  exact G.lim.keeps fun a o e => S a o (hb a o e)

theorem eqAt_flt {A : Around} {s : Shared} {x y : UInt64} {t u : Tok} (ht : t ≠ 0) (hu : u ≠ 0) (hb : NoneBooked s.heap) (hx : Float64.cmp x y = some .eq) : SeqAt.EqAt A s (.float x t) (.float y u) true := fun prog w E Q h => by
  unfold eqBool
  refine wpAny_holding ?_
  refine wpAny_ite_split (fun hab => ?_) (fun _ => ?_)
  · exact wpAny_bind (wpAny_rule (wpAny_pure h))
  · refine wpAny_bind (wp_isSame_flt ht hu hb fun b _ => ?_)
    cases b with
    | true => exact wpAny_pure h
    | false => exact wpAny_bind (AutoFloatOps.eq_0 (by rw [hx]; exact wpAny_truthy_bool h))
/-- equality, of flat things -/
noncomputable def eqF : D → D → Bool
  | .bool a, .bool b => a == b
  | .int a, .int b => a == b
  | .str a, .str b => a == b
  | .flt _, .flt _ => true
  | _, _ => false
noncomputable def okF : D → D → Bool
  | .bool _, .bool _ => true
  | .int _, .int _ => true
  | .str _, .str _ => true
  | .flt a, .flt b => Float64.cmp a b == some .eq
  | _, _ => false
noncomputable def eqV : Value → Value → Bool
  | .bool a, .bool b => a == b
  | .int a _, .int b _ => a == b
  | .str a _, .str b _ => a == b
  | .float _ _, .float _ _ => true
  | _, _ => false
theorem eqAt_flat {w : World} {A : Around} {g : PH} {s : Shared} {a b : D} {u v : Value} (hb : NoneBooked s.heap) (h : okF a b = true) (r1 : Rp p w g a u) (r2 : Rp p w g b v) : SeqAt.EqAt A s u v (eqV u v) ∧ eqV u v = eqF a b := by
  cases a <;> cases b <;> first | (cases h; done) | skip
  · rw [Rp.bool_iff] at r1 r2; subst r1 r2; exact ⟨.bool_bool _ _, rfl⟩
  · rw [Rp.int_iff] at r1 r2; obtain ⟨_, rfl⟩ := r1; obtain ⟨_, rfl⟩ := r2; exact ⟨.int_int _ _ _ _, rfl⟩
  · rw [Rp.flt_iff] at r1 r2; obtain ⟨_, rfl, h1⟩ := r1; obtain ⟨_, rfl, h2⟩ := r2
    simp only [okF, beq_iff_eq] at h
    exact ⟨eqAt_flt h1 h2 hb h, rfl⟩
  · rw [Rp.str_iff] at r1 r2; obtain ⟨_, rfl⟩ := r1; obtain ⟨_, rfl⟩ := r2; exact ⟨.str_str _ _ _ _, rfl⟩

theorem any_flat {w : World} {A : Around} {g : PH} {s : Shared} {a : D} {u : Value} (hb : NoneBooked s.heap) (r : Rp p w g a u) : ∀ {l : List D} {vs : List Value}, RpL p w g l vs → (∀ d ∈ l, okF d a = true) →
    (∀ y ∈ vs, SeqAt.EqAt A s y u (eqV y u)) ∧ (vs.any fun y => eqV y u) = l.any fun d => eqF d a
  | [], vs, h, _ => by rw [RpL] at h; subst h; simp
  | d :: l, vs, h, ho => by
    rw [RpL] at h
    obtain ⟨v, vs', rfl, h1, h2⟩ := h
    obtain ⟨q1, q2⟩ := any_flat hb r h2 fun d hd => ho d (List.mem_cons_of_mem _ hd)
    obtain ⟨e1, e2⟩ := eqAt_flat (A := A) hb (ho d (.head _)) h1 r
    exact ⟨fun y hy => (List.mem_cons.mp hy).elim (fun q => q ▸ e1) (q1 y), by rw [List.any_cons, List.any_cons, e2, q2]⟩
theorem l_in {a : D} {l : List D} (h : ∀ d ∈ l, okF d a = true) : OpD p k (compareOp .In) a (.lst l) (.bool (l.any fun d => eqF d a)) := .mk fun w A g s u v Q E hA S G hT r1 r2 hQ => by
  obtain ⟨x, n, vs, rfl, hx, hl, hr, ho⟩ := r2.isL S
  obtain ⟨q1, q2⟩ := any_flat (A := A.in1) (G.booked S) r1 hr h
  refine SeqAt.in_listAt (fun y => eqV y u) hl (by simpa using q1) ?_
  rw [List.any_toArray, q2]
  exact hQ _ g s (.refl S) .bool
theorem l_notIn {a : D} {l : List D} (h : ∀ d ∈ l, okF d a = true) : OpD p k (compareOp .NotIn) a (.lst l) (.bool (!l.any fun d => eqF d a)) := .mk fun w A g s u v Q E hA S G hT r1 r2 hQ => by
  obtain ⟨x, n, vs, rfl, hx, hl, hr, ho⟩ := r2.isL S
  obtain ⟨q1, q2⟩ := any_flat (A := A.in1) (G.booked S) r1 hr h
  refine SeqAt.notIn_listAt (fun y => eqV y u) hl (by simpa using q1) ?_
  rw [List.any_toArray, q2]
  exact hQ _ g s (.refl S) .bool

noncomputable def okL : List D → List D → Bool
  | a :: l, b :: m => okF a b && okL l m
  | _, _ => true
noncomputable def eqL : List D → List D → Bool
  | [], [] => true
  | a :: l, b :: m => eqF a b && eqL l m
  | _, _ => false
theorem zip_flat {w : World} {A : Around} {g : PH} {s : Shared} (hb : NoneBooked s.heap) : ∀ {l m : List D} {vs us : List Value}, RpL p w g l vs → RpL p w g m us → okL l m = true →
    (∀ (j : Nat) (x y : Value), vs[j]? = some x → us[j]? = some y → SeqAt.EqAt A s x y (eqV x y)) ∧ (eqL l m = (vs.length == us.length && (List.range (min vs.length us.length)).all fun j => eqV (vs.getD j .none) (us.getD j .none)))
  | [], [], vs, us, h, h', _ => by rw [RpL] at h h'; subst h h'; simp [eqL]
  | [], b :: m, vs, us, h, h', _ => by
    rw [RpL] at h; subst h
    have := h'.length
    refine ⟨fun j x y e => by simp at e, ?_⟩
    have : us.length ≠ 0 := by rw [this]; simp
    have q : (0 == us.length) = false := by rw [beq_eq_false_iff_ne]; omega
    simp [eqL, q]
  | a :: l, [], vs, us, h, h', _ => by
    rw [RpL] at h'; subst h'
    have := h.length
    refine ⟨fun j x y e e' => by simp at e', ?_⟩
    have : vs.length ≠ 0 := by rw [this]; simp
    have q : (vs.length == 0) = false := by rw [beq_eq_false_iff_ne]; omega
    simp [eqL, q]
  | a :: l, b :: m, vs, us, h, h', ho => by
    rw [RpL] at h h'
    obtain ⟨v, vs, rfl, h1, h2⟩ := h
    obtain ⟨u, us, rfl, h1', h2'⟩ := h'
    simp only [okL, Bool.and_eq_true] at ho
    obtain ⟨q1, q2⟩ := zip_flat hb h2 h2' ho.2
    obtain ⟨e1, e2⟩ := eqAt_flat (A := A) hb ho.1 h1 h1'
    refine ⟨fun j x y e e' => ?_, ?_⟩
    · cases j with
      | zero => simp at e e'; subst e e'; exact e1
      | succ j => simp at e e'; exact q1 j x y e e'
    · rw [eqL, q2, ← e2]
      have : min (v :: vs).length (u :: us).length = min vs.length us.length + 1 := by simp [Nat.succ_min_succ]
      rw [this, List.range_succ_eq_map, List.all_cons, List.all_map]
      simp [Bool.and_left_comm, Function.comp_def]
theorem l_eq {l m : List D} (ho : okL l m = true) : OpD p k (compareOp .Eq) (.lst l) (.lst m) (.bool (eqL l m)) := .mk fun w A g s u v Q E hA S G hT r1 r2 hQ => by
  obtain ⟨x, n, vs, rfl, hx, hl, hr, _⟩ := r1.isL S
  obtain ⟨y, n', us, rfl, hy, hl', hr', _⟩ := r2.isL S
  obtain ⟨q1, q2⟩ := zip_flat (A := A.in1) (G.booked S) hr hr' ho
  have hu : A.units < cLine := by have := hA.units; omega
  by_cases hz : vs.length = us.length
  · refine SeqAt.eq_listAt (e := fun j => eqV (vs.getD j .none) (us.getD j .none)) hl hl' (by simpa using hz) hu (fun j h1 h2 => ?_) ?_
    · simp only [List.size_toArray] at h1 h2
      have a1 : vs[j]? = some vs[j] := by simp [h1]
      have a2 : us[j]? = some us[j] := by simp [h2]
      have := q1 j _ _ a1 a2
      simpa [List.getD_eq_getElem?_getD, a1, a2] using this
    · have : (.bool ((List.range vs.toArray.size).all fun j => eqV (vs.getD j .none) (us.getD j .none)) : Value) = .bool (eqL l m) := by rw [q2]; simp [hz]
      rw [this]; exact hQ _ g s (.refl S) .bool
  · refine SeqAt.eq_list_lengthsAt hl hl' (by simp [bne, hz]) hu ?_
    have : eqL l m = false := by rw [q2]; simp [hz]
    rw [← this]; exact hQ _ g s (.refl S) .bool
theorem l_ne {l m : List D} (ho : okL l m = true) : OpD p k (compareOp .NotEq) (.lst l) (.lst m) (.bool (!eqL l m)) := .mk fun w A g s u v Q E hA S G hT r1 r2 hQ => by
  obtain ⟨x, n, vs, rfl, hx, hl, hr, _⟩ := r1.isL S
  obtain ⟨y, n', us, rfl, hy, hl', hr', _⟩ := r2.isL S
  obtain ⟨q1, q2⟩ := zip_flat (A := A.in1) (G.booked S) hr hr' ho
  have hu : A.units < cLine := by have := hA.units; omega
  by_cases hz : vs.length = us.length
  · refine SeqAt.RcNeAt.lists (e := fun j => eqV (vs.getD j .none) (us.getD j .none)) hl hl' (by simpa using hz) hu (fun j h1 h2 => ?_) p w E Q ?_
    · simp only [List.size_toArray] at h1 h2
      have a1 : vs[j]? = some vs[j] := by simp [h1]
      have a2 : us[j]? = some us[j] := by simp [h2]
      have := q1 j _ _ a1 a2
      simpa [List.getD_eq_getElem?_getD, a1, a2] using this
    · have : (.bool (!(List.range vs.toArray.size).all fun j => eqV (vs.getD j .none) (us.getD j .none)) : Value) = .bool (!eqL l m) := by rw [q2]; simp [hz]
      rw [this]; exact hQ _ g s (.refl S) .bool
  · refine SeqAt.RcNeAt.lists_lengths hl hl' (by simp [bne, hz]) hu p w E Q ?_
    have : (true : Bool) = !eqL l m := by rw [q2]; simp [hz]
    rw [this]; exact hQ _ g s (.refl S) .bool
theorem t_ne {l m : List D} (ho : okL l m = true) : OpD p k (compareOp .NotEq) (.tup l) (.tup m) (.bool (!eqL l m)) := .mk fun w A g s u v Q E hA S G hT r1 r2 hQ => by
  obtain ⟨x, vs, rfl, hx, hl, hr, _⟩ := r1.isT S
  obtain ⟨y, us, rfl, hy, hl', hr', _⟩ := r2.isT S
  obtain ⟨q1, q2⟩ := zip_flat (A := A.in1) (G.booked S) hr hr' ho
  have hu : A.units < cLine := by have := hA.units; omega
  refine SeqAt.RcNeAt.tuples (e := fun j => eqV (vs.getD j .none) (us.getD j .none)) hl hl' hu (fun j h1 h2 => ?_) p w E Q ?_
  · simp only [List.size_toArray] at h1 h2
    have a1 : vs[j]? = some vs[j] := by simp [h1]
    have a2 : us[j]? = some us[j] := by simp [h2]
    have := q1 j _ _ a1 a2
    simpa [List.getD_eq_getElem?_getD, a1, a2] using this
  · have : (.bool (!((List.range (min vs.toArray.size us.toArray.size)).all (fun j => eqV (vs.getD j .none) (us.getD j .none)) && vs.toArray.size == us.toArray.size)) : Value) = .bool (!eqL l m) := by rw [q2]; simp [Bool.and_comm]
    rw [this]; exact hQ _ g s (.refl S) .bool
end
end Mine
end
section
open PySem PySem.Calls PyProof.Rows
set_option maxRecDepth 100000
set_option linter.unusedVariables false
namespace Mine
section
variable {p : Program} {k : Nat} {sc : Scope} {σ : List (Str × D)}

-- items
noncomputable def itemAt (l : List D) (i : Int) : Option D := if 0 ≤ i then l[i.toNat]? else if -(l.length : Int) ≤ i then l[(i + l.length).toNat]? else none
noncomputable def seqTy : D → Option String
  | .lst _ => some "list"
  | .tup _ => some "tuple"
  | .dct _ _ => some "dict"
  | .tab _ => some "dict"
  | _ => none
theorem seqTy_lookup {d : D} {T : String} (h : seqTy d = some T) : ∃ id, typeLookup (.type T) "__getitem__" = pure (some (.builtin id)) := by
  cases d <;> first | (cases h; done) | skip
  all_goals cases h
  · exact ⟨_, slot_list_getitem.lookup⟩
  · exact ⟨_, slot_tuple_getitem.lookup⟩
  · exact ⟨_, slot_dict_getitem.lookup⟩
  · exact ⟨_, slot_dict_getitem.lookup⟩
theorem Rp.isD {w : World} {g : PH} {h : Heap} {ks : List Int} {l : List D} {v : Value} (r : Rp p w g (.dct ks l) v) (S : Sub g h) : ∃ a vs o, v = .ref a ∧ g a = some o ∧ a ≠ sysModules ∧ h.DictOf (intKind p w) a (ks.zip vs) ∧ ks.length = vs.length ∧ RpL p w g l vs := by
  rw [Rp.dct_iff] at r
  obtain ⟨a, o, vs, e, hg, hf, hd, hk, hl⟩ := r
  exact ⟨a, vs, o, e, hg, hf, Heap.dictOf_iff.mpr ⟨o, S _ _ hg, hd⟩, hk, hl⟩
theorem Rp.isTab {w : World} {g : PH} {h : Heap} {kvs : List (Str × Str)} {v : Value} (r : Rp p w g (.tab kvs) v) (S : Sub g h) : ∃ a, ∃ ts : List Tok, v = .ref a ∧ h.DictOf (strKind p w) a ((kvs.zip ts).map fun x => (x.1.1, .str x.1.2 x.2)) ∧ kvs.length = ts.length := by
  rw [Rp.tab_iff] at r
  obtain ⟨a, o, ts, e, hg, hd, hk⟩ := r
  exact ⟨a, ts, e, Heap.dictOf_iff.mpr ⟨o, S _ _ hg, hd⟩, hk⟩
theorem seqTy_is {w : World} {g : PH} {s : Shared} {d : D} {T : String} {v : Value} (h : seqTy d = some T) (r : Rp p w g d v) (S : Sub g s.heap) : s.TypeIs v T := by
  cases d <;> first | (cases h; done) | skip
  all_goals cases h
  · obtain ⟨a, n, vs, rfl, _, hl, _⟩ := r.isL S; exact hl.typeIs
  · obtain ⟨a, vs, rfl, _, hl, _⟩ := r.isT S; exact hl.typeIs
  · obtain ⟨a, vs, o, rfl, _, _, hd, _⟩ := r.isD S; exact hd.typeIs
  · obtain ⟨a, ts, rfl, hd, _⟩ := r.isTab S; exact hd.typeIs

/-- o[i] -/
theorem wp_sub {w : World} {A : Around} {env : Env} {value slice : Expr} {pos : Pos} {s : Shared} {Q : Value → Shared → Prop} {E : Value → Shared → Prop}
    (h : wpAny (model p w) A (eval value env) (fun o s₁ => wpAny (model p w) A (eval slice env) (fun i s₂ => ∃ T id, typeLookup (.type T) "__getitem__" = pure (some (.builtin id)) ∧ s₂.TypeIs o T ∧
      wpAny (model p w) A (getItem o i) Q E s₂) E s₁) E s)
    (hsl : ∀ o i, (subscripted slice false o i = operate [i, o] (getItem o i)) ∨ (subscripted slice false o i = operate [o, i] (getItem o i))) :
    wpAny (model p w) A (eval (.Subscript value slice pos) env) Q E s := by
  rw [eval_Subscript]
  refine wpAny_bind (wpAny_mono h (fun o s₁ h₁ => wpAny_bind (wpAny_holding (wpAny_mono h₁ (fun i s₂ h₂ => wpAny_bind (wpAny_standAt ?_)) fun _ _ x => x))) fun _ _ x => x)
  obtain ⟨T, id, hl, hT, hg⟩ := h₂
  refine wpAny_bind ?_
  rw [getitemInPython_of_ne hT.not_modules]
  refine wpAny_bind (wpAny_specialOf hT hl ?_)
  have fin : wpAny (model p w) A (subscripted slice false o i) (fun r s₃ => wpAny (model p w) A (letTemporaryGo value o r >>= fun _ => pure r) Q E s₃) E s₂ := by
    rcases hsl o i with q | q <;> rw [q] <;> exact wpAny_operating (wpAny_mono hg (fun r s₃ h₃ => wpAny_bind (wpAny_letTemporaryGo (wpAny_pure h₃))) fun _ _ x => x)
  first
    | exact wpAny_pure (wpAny_bind fin)
    | exact wpAny_bind (wpAny_pure (wpAny_bind fin))
    | exact wpAny_bind fin

theorem ev_sub {value slice : Expr} {pos : Pos} {a b d : D} {T : String} (hv : Ev p k sc σ value a) (hi : Ev p k sc σ slice b) (hT : seqTy a = some T) (ho : OpD p k getItem a b d)
    (hsl : ∀ o i, subscripted slice false o i = operate [o, i] (getItem o i) := by intro _ _; rfl) : Ev p k sc σ (.Subscript value slice pos) d := .mk fun w A env g s Q E hA hs O hQ => by
  refine wp_sub (hv.go w A env g s _ E hA hs O fun v₁ g₁ s₁ x₁ r₁ => hi.go w A env g₁ s₁ _ E hA hs (O.step x₁) fun v₂ g₂ s₂ x₂ r₂ => ?_) fun o i => .inr (hsl o i)
  obtain ⟨id, hl⟩ := seqTy_lookup hT
  refine ⟨T, id, hl, seqTy_is hT (r₁.mono x₂.le) x₂.sub, ?_⟩
  refine ho.go w A g₂ s₂ v₁ v₂ _ E hA x₂.sub (O.gd.mono (x₁.le.trans x₂.le)) (Nat.le_trans O.tok (x₁.trans x₂).tks) (r₁.mono x₂.le) r₂ fun r g' s' x rr => hQ r g' s' ((x₁.trans x₂).trans x) rr

theorem g_list {l : List D} {i : Int} {d : D} (h : itemAt l i = some d) (hz : l.length < 2 ^ 62) : OpD p k getItem (.lst l) (.int i) d := .mk fun w A g s u v Q E hA S G hT r1 r2 hQ => by
  obtain ⟨a, n, vs, rfl, hx, hl, hr, ho⟩ := r1.isL S
  rw [Rp.int_iff] at r2
  obtain ⟨t, rfl⟩ := r2
  have hlen := hr.length
  unfold itemAt at h
  by_cases h0 : 0 ≤ i
  · rw [if_pos h0] at h
    obtain ⟨x, hx, rr⟩ := hr.get h
    have hlt : i.toNat < l.length := by obtain ⟨q, _⟩ := List.getElem?_eq_some_iff.mp h; exact q
    exact wpAny_getItem_list hl h0 (by omega) (by simpa using hx) (hQ _ g s (.refl S) rr)
  · rw [if_neg h0] at h
    by_cases h1 : -(l.length : Int) ≤ i
    · rw [if_pos h1, ← hlen] at h
      obtain ⟨x, hx, rr⟩ := hr.get h
      exact wpAny_getItem_list_neg hl (by omega) (by simp; omega) (by omega) (by simpa using hx) (hQ _ g s (.refl S) rr)
    · rw [if_neg h1] at h; cases h
theorem g_tup {l : List D} {i : Int} {d : D} (h0 : 0 ≤ i) (h : l[i.toNat]? = some d) (hz : l.length < 2 ^ 62) : OpD p k getItem (.tup l) (.int i) d := .mk fun w A g s u v Q E hA S G hT r1 r2 hQ => by
  obtain ⟨a, vs, rfl, hx, hl, hr, ho⟩ := r1.isT S
  rw [Rp.int_iff] at r2
  obtain ⟨t, rfl⟩ := r2
  have hlen := hr.length
  obtain ⟨x, hx, rr⟩ := hr.get h
  have hlt : i.toNat < l.length := by obtain ⟨q, _⟩ := List.getElem?_eq_some_iff.mp h; exact q
  refine PySem.P.getItem_tuple (n := 0) (items := vs.toArray) ho (by omega) (by omega) (seqIndex_of h0 (by simp; omega)) (by simpa using hx) (hQ _ g s (.refl S) rr)

noncomputable def dctAt : List Int → List D → Int → Option D
  | a :: ks, d :: vs, i => if a = i then some d else dctAt ks vs i
  | _, _, _ => none
theorem valueAt_dct {w : World} {g : PH} {i : Int} {d : D} : ∀ {ks : List Int} {l : List D} {vs : List Value}, RpL p w g l vs → dctAt ks l i = some d → ∃ v, valueAt (ks.zip vs) i = some v ∧ Rp p w g d v
  | [], _, _, _, h => by simp [dctAt] at h
  | _ :: _, [], _, _, h => by simp [dctAt] at h
  | a :: ks, e :: l, vs, hr, h => by
    rw [RpL] at hr
    obtain ⟨v, vs', rfl, h1, h2⟩ := hr
    unfold dctAt at h
    by_cases q : a = i
    · rw [if_pos q] at h; cases h
      exact ⟨v, by simp [valueAt, q], h1⟩
    · rw [if_neg q] at h
      obtain ⟨u, hu, rr⟩ := valueAt_dct h2 h
      refine ⟨u, ?_, rr⟩
      unfold valueAt at hu ⊢
      rw [List.zip_cons_cons, List.find?_cons_of_neg (by simpa using q)]
      exact hu
theorem g_dct {ks : List Int} {l : List D} {i : Int} {d : D} (h : dctAt ks l i = some d) : OpD p k getItem (.dct ks l) (.int i) d := .mk fun w A g s u v Q E hA S G hT r1 r2 hQ => by
  obtain ⟨a, vs, o, rfl, _, _, hd, hk, hr⟩ := r1.isD S
  rw [Rp.int_iff] at r2
  obtain ⟨t, rfl⟩ := r2
  obtain ⟨x, hx, rr⟩ := valueAt_dct hr h
  exact wpAny_getItem_of (intKind_is p w i t) hd.mapOf hx (hQ _ g _ (.tok S (Nat.le_succ _)) rr)
theorem valueAt_tab : ∀ {kvs : List (Str × Str)} {ts : List Tok} {x y : Str}, kvs.length = ts.length → kvs.lookup x = some y → ∃ t, valueAt ((kvs.zip ts).map fun x => (x.1.1, Value.str x.1.2 x.2)) x = some (.str y t)
  | [], _, _, _, _, h => by simp at h
  | (a, b) :: kvs, [], _, _, hl, _ => by simp at hl
  | (a, b) :: kvs, t :: ts, x, y, hl, h => by
    by_cases q : x = a
    · subst q
      simp only [List.lookup_cons, beq_self_eq_true] at h
      cases h
      exact ⟨t, by simp [valueAt]⟩
    · have q' : (x == a) = false := beq_eq_false_iff_ne.mpr q
      rw [List.lookup_cons, q'] at h
      obtain ⟨u, hu⟩ := valueAt_tab (by simpa using hl) h
      refine ⟨u, ?_⟩
      unfold valueAt at hu ⊢
      rw [List.zip_cons_cons, List.map_cons, List.find?_cons_of_neg (by simpa using fun e => q e.symm)]
      exact hu
theorem strKind_is (w : World) (x : Str) (t : Tok) : (PySem.strKind p w).is x (.str x t) = true := by simp [PySem.strKind, Value.isStrOf]
theorem g_tab {kvs : List (Str × Str)} {x y : Str} (h : kvs.lookup x = some y) : OpD p k getItem (.tab kvs) (.str x) (.str y) := .mk fun w A g s u v Q E hA S G hT r1 r2 hQ => by
  obtain ⟨a, ts, rfl, hd, hk⟩ := r1.isTab S
  rw [Rp.str_iff] at r2
  obtain ⟨t, rfl⟩ := r2
  obtain ⟨z, hz⟩ := valueAt_tab hk h
  exact wpAny_getItem_of (strKind_is w x t) hd.mapOf hz (hQ _ g _ (.tok S (Nat.le_succ _)) (.str _))

-- slices of a list
noncomputable def slcD (l : List D) (lo hi st : Option Int) : List D := (sliceRange (sliceBounds lo hi st l.length).1 (sliceBounds lo hi st l.length).2.1 (sliceBounds lo hi st l.length).2.2).filterMap (l[·]?)
/-- a part of a slice -/
noncomputable def EvO (p : Program) (k : Nat) (sc : Scope) (σ : List (Str × D)) : Option Expr → Option Int → Prop
  | none, i => i = none
  | some e, i => ∃ j, i = some j ∧ Ev p k sc σ e (.int j)
theorem evo_none : EvO p k sc σ none none := rfl
theorem evo_some {e : Expr} {i : Int} (h : Ev p k sc σ e (.int i)) : EvO p k sc σ (some e) (some i) := ⟨i, rfl, h⟩
theorem wp_evo {w : World} {A : Around} {env : Env} {g : PH} {s : Shared} {e : Option Expr} {i : Option Int} {Q : Value → Shared → Prop} {E : Value → Shared → Prop} (h : EvO p k sc σ e i) (hA : Rm k A) (hs : env.scope = sc) (O : EOk p w env σ g s)
    (hQ : ∀ v g' s', Stp g g' s s' → IsPart v i → Q v s') : wpAny (model p w) A (valueOrNone (evalOpt e env)) Q E s := by
  cases e with
  | none => cases h; exact wpAny_pure (hQ _ g s (.refl O.sub) .none)
  | some e =>
    obtain ⟨j, rfl, h⟩ := h
    exact h.go w A env g s Q E hA hs O fun v g' s' x r => by rw [Rp.int_iff] at r; obtain ⟨t, rfl⟩ := r; exact hQ _ g' s' x (.int _ _)
theorem RpL.pick {w : World} {g : PH} {l : List D} {vs : List Value} (hr : RpL p w g l vs) : ∀ (is : List Nat), RpL p w g (is.filterMap (l[·]?)) (is.filterMap (vs[·]?))
  | [] => .nil g
  | i :: is => by
    have ih := RpL.pick hr is
    cases hi : l[i]? with
    | none =>
      have : vs[i]? = none := by
        have := hr.length
        rw [List.getElem?_eq_none_iff] at hi ⊢; omega
      simpa [List.filterMap_cons, hi, this] using ih
    | some d =>
      obtain ⟨v, hv, rr⟩ := hr.get hi
      simpa [List.filterMap_cons, hi, hv] using RpL.cons rr ih
theorem ev_slice {value : Expr} {lo hi st : Option Expr} {p₁ pos : Pos} {l : List D} {i j c : Option Int} (hv : Ev p k sc σ value (.lst l)) (h1 : EvO p k sc σ lo i) (h2 : EvO p k sc σ hi j) (h3 : EvO p k sc σ st c) (hc : c ≠ some 0)
    (hz : l.length ≤ sizeLine) : EvN p k sc σ (.Subscript value (.Slice lo hi st p₁) pos) (.lst (slcD l i j c)) := .mk fun w A env g s Q E hA hs O hQ => by
  refine wp_sub (hv.go w A env g s _ E hA hs O fun v₁ g₁ s₁ x₁ r₁ => ?_) fun o i => by cases st <;> first | exact .inl rfl | exact .inr rfl
  rw [arm_eval_Slice]
  refine wpAny_bind (wp_evo h1 hA hs (O.step x₁) fun vl g₂ s₂ x₂ p₂ => ?_)
  refine wpAny_bind (wpAny_holding (wp_evo h2 hA hs (O.step (x₁.trans x₂)) fun vu g₃ s₃ x₃ p₃ => ?_))
  refine wpAny_bind (wpAny_holding (wp_evo h3 hA hs (O.step ((x₁.trans x₂).trans x₃)) fun vc g₄ s₄ x₄ p₄ => ?_))
  have x := ((x₁.trans x₂).trans x₃).trans x₄
  have r := r₁.mono ((x₂.trans x₃).trans x₄).le
  refine wpAny_newObj_type (hd := by size_fits) ?_
  obtain ⟨a, n, vs, rfl, hx, hl, hr, ho⟩ := r.isL x.sub
  refine ⟨"list", _, slot_list_getitem.lookup, (hl.push _).typeIs, ?_⟩
  have hzz : vs.toArray.size ≤ sizeLine := by simp [hr.length, hz]
  refine wpAny_getItem_list_slice (hl.push _) (Heap.IsSliceOf.new _ vl vu vc) p₂ p₃ p₄ hc ?_ hzz
  have y : Stp g g₄ s { s₄ with heap := s₄.heap.push { cls := .type "slice", data := .fields #[vl, vu, vc] } } :=
    x.trans (Stp.grow x.sub (fun b o e => Heap.get?_push_of_some _ e) (Nat.le_refl _))
  have q : ({ cls := .type "list", data := .seq (slicePick vs.toArray i j c) } : Obj) = lstO ((sliceRange (sliceBounds i j c l.length).1 (sliceBounds i j c l.length).2.1 (sliceBounds i j c l.length).2.2).filterMap (vs[·]?)) 0 := by
    simp [lstO, slicePick, hr.length]
  rw [q]
  obtain ⟨z, e, le⟩ := put_new (w := w) (o := lstO ((sliceRange (sliceBounds i j c l.length).1 (sliceBounds i j c l.length).2.1 (sliceBounds i j c l.length).2.2).filterMap (vs[·]?)) 0) y rfl
  exact hQ _ _ _ (none_of_keep y.keep (get?_size _)) z (.lst e ((hr.pick _).mono le))
end
end Mine
end
section
open PySem PySem.Calls PyProof.Rows
set_option maxRecDepth 100000
set_option linter.unusedVariables false
namespace Mine

/-- what a call began with -/
structure Bs where
  s₀ : Shared
  k₀ : PH
  g₀ : PH
  xs : List (Addr × Obj)
noncomputable abbrev Bs.new (B : Bs) (a : Addr) : Prop := B.s₀.heap.get? a = none

/-- a thing that a name alone holds -/
inductive OC where
  | lst (l : List D)
  | dct (ks : List Int) (vs : List D)
noncomputable def OwnAt (p : Program) (w : World) (g : PH) (h : Heap) (a : Addr) : OC → Prop
  | .lst l => ∃ n vs, h.get? a = some (lstO vs n) ∧ RpL p w g l vs
  | .dct ks l => ∃ vs, h.DictOf (intKind p w) a (ks.zip vs) ∧ ks.length = vs.length ∧ RpL p w g l vs ∧ a ≠ sysModules
section
variable {p : Program} {w : World}
theorem OwnAt.at {g g' : PH} {h h' : Heap} {a : Addr} {c : OC} (x : OwnAt p w g h a c) (hl : Le g g') (hk : ∀ o, h.get? a = some o → h'.get? a = some o) : OwnAt p w g' h' a c := by
  cases c with
  | lst l => obtain ⟨n, vs, ho, hr⟩ := x; exact ⟨n, vs, hk _ ho, hr.mono hl⟩
  | dct ks l =>
    obtain ⟨vs, ho, hz, hr⟩ := x
    obtain ⟨o, ho, hd⟩ := Heap.dictOf_iff.mp ho
    exact ⟨vs, Heap.dictOf_iff.mpr ⟨o, hk _ ho, hd⟩, hz, hr.1.mono hl, hr.2⟩
theorem OwnAt.some {g : PH} {h : Heap} {a : Addr} {c : OC} (x : OwnAt p w g h a c) : ∃ o, h.get? a = some o := by
  cases c with
  | lst l => obtain ⟨n, vs, ho, hr⟩ := x; exact ⟨_, ho⟩
  | dct ks l =>
    obtain ⟨vs, ho, hz, hr⟩ := x
    obtain ⟨o, ho, hd⟩ := Heap.dictOf_iff.mp ho
    exact ⟨o, ho⟩

structure SOk (p : Program) (w : World) (B : Bs) (α : Str → Addr) (env : Env) (σ : List (Str × D)) (ω : List (Str × OC)) (g : PH) (s : Shared) : Prop where
  e : EOk p w env σ g s
  same : ∃ h tk, s = { B.s₀ with heap := h, toks := tk }
  keep : ∀ b o, B.k₀ b = some o → s.heap.get? b = some o
  klt : ∀ b o, B.k₀ b = some o → B.s₀.heap.get? b = some o
  le : Le B.g₀ g
  fresh : ∀ a o, g a = some o → B.g₀ a = some o ∨ B.new a
  old : ∀ a, s.heap.get? a = none → B.new a
  tks : B.s₀.toks ≤ s.toks
  xs : ∀ x ∈ B.xs, s.heap.get? x.1 = some x.2 ∧ g x.1 = none ∧ ¬ B.new x.1
  offL : g env.locals = none ∧ B.new env.locals
  offC : ∀ n c, env.cells.lookup n = some c → g c = none ∧ B.new c ∧ c ≠ env.locals
  inj : ∀ n n' c, env.cells.lookup n = some c → env.cells.lookup n' = some c → n = n'
  own : ∀ x c, ω.lookup x = some c → Has env s.heap x (.ref (α x)) ∧ OwnAt p w g s.heap (α x) c ∧ g (α x) = none ∧ B.new (α x) ∧ α x ≠ env.locals ∧ (∀ n c', env.cells.lookup n = some c' → α x ≠ c')
  apart : ∀ x y c d, ω.lookup x = some c → ω.lookup y = some d → x ≠ y → α x ≠ α y

theorem off_step {g g' : PH} {s s' : Shared} {a : Addr} {o : Obj} (x : Stp g g' s s') (h : g a = none) (ho : s.heap.get? a = some o) : g' a = none := by
  cases e : g' a with
  | none => rfl
  | some o' =>
    rcases x.fresh a o' e with q | q
    · rw [h] at q; cases q
    · rw [ho] at q; cases q
theorem SOk.step {B : Bs} {α : Str → Addr} {env : Env} {σ : List (Str × D)} {ω : List (Str × OC)} {g g' : PH} {s s' : Shared} (O : SOk p w B α env σ ω g s) (x : Stp g g' s s') : SOk p w B α env σ ω g' s' where
  e := O.e.step x
  same := by obtain ⟨h, t, e⟩ := O.same; obtain ⟨h', t', rfl⟩ := x.same; exact ⟨h', t', by rw [e]⟩
  keep := fun b o e => x.keep b o (O.keep b o e)
  klt := O.klt
  le := O.le.trans x.le
  fresh := fun a o e => (x.fresh a o e).elim (O.fresh a o) fun q => .inr (O.old a q)
  old := fun a e => O.old a (none_of_keep x.keep e)
  tks := Nat.le_trans O.tks x.tks
  xs := fun y hy => let ⟨h1, h2, h3⟩ := O.xs y hy; ⟨x.keep _ _ h1, off_step x h2 h1, h3⟩
  offL := let ⟨m, hm⟩ := O.e.lns; let ⟨o, _, _, ho, _⟩ := hm; ⟨off_step x O.offL.1 ho, O.offL.2⟩
  offC := fun n c hc => let ⟨v, o, ho, _⟩ := O.e.cells n c hc; let ⟨h1, h2⟩ := O.offC n c hc; ⟨off_step x h1 ho, h2⟩
  inj := O.inj
  own := fun y c hc => let ⟨h1, h2, h3, h4⟩ := O.own y c hc; let ⟨o, ho⟩ := h2.some; ⟨h1.keeps x.keep, h2.at x.le fun o => x.keep _ o, off_step x h3 ho, h4⟩
  apart := O.apart

/-- one object of the frame's own is changed -/
theorem SOk.poke {B : Bs} {α : Str → Addr} {env : Env} {σ σ' : List (Str × D)} {ω ω' : List (Str × OC)} {g : PH} {s : Shared} {b : Addr} {h' : Heap} {tk : Nat} (O : SOk p w B α env σ ω g s) (hb : g b = none) (hB : B.new b) (hs : Heap.SameBut b s.heap h') (ht : s.toks ≤ tk)
    (lns : ∃ m, h'.Ns env.locals m) (cells : ∀ n c, env.cells.lookup n = some c → ∃ v, h'.IsCell c v) (vars : ∀ x d, σ'.lookup x = some d → known env x → ∃ v, Has env h' x v ∧ Rp p w g d v)
    (own : ∀ x c, ω'.lookup x = some c → (∃ c₀, ω.lookup x = some c₀) ∧ OwnAt p w g h' (α x) c ∧ Has env h' x (.ref (α x))) : SOk p w B α env σ' ω' g { s with heap := h', toks := tk } where
  e := { sub := fun a o e => (hs.2 a fun q => by rw [q, hb] at e; cases e).trans (O.e.sub a o e), gd := O.e.gd, tok := Nat.le_trans O.e.tok ht, kind := O.e.kind, glob := O.e.glob, blt := O.e.blt, lns := lns, cells := cells, hasc := O.e.hasc, vars := vars }
  same := by obtain ⟨h, t, e⟩ := O.same; exact ⟨h', tk, by rw [e]⟩
  keep := fun a o e => (hs.2 a fun q => by have := O.klt a o e; rw [q, hB] at this; cases this).trans (O.keep a o e)
  klt := O.klt
  le := O.le
  fresh := O.fresh
  old := fun a e => by
    by_cases q : a = b
    · exact q ▸ hB
    · exact O.old a ((hs.2 a q).symm.trans e)
  tks := Nat.le_trans O.tks ht
  xs := fun y hy => let ⟨h1, h2, h3⟩ := O.xs y hy; ⟨(hs.2 y.1 fun q => h3 (by rw [q]; exact hB)).trans h1, h2, h3⟩
  offL := O.offL
  offC := O.offC
  inj := O.inj
  own := fun x c hc => let ⟨⟨c₀, h0⟩, h1, h2⟩ := own x c hc; ⟨h2, h1, (O.own x c₀ h0).2.2⟩
  apart := fun x y c d hx hy => let ⟨⟨c₀, h0⟩, _⟩ := own x c hx; let ⟨⟨d₀, h1⟩, _⟩ := own y d hy; O.apart x y c₀ d₀ h0 h1

theorem ns_unique {h : Heap} {a : Addr} {m m' : Str → Option Value} (x : h.Ns a m) (y : h.Ns a m') : m = m' := by
  obtain ⟨o, es, ep, ho, hd, hk, hm⟩ := x
  obtain ⟨o', es', ep', ho', hd', hk', hm'⟩ := y
  rw [ho] at ho'; cases ho'
  rw [hd] at hd'; cases hd'
  funext z; rw [← hm z, hm' z]
/-- names kept when another local is set -/
theorem Has.setL {env : Env} {h h' : Heap} {m : Str → Option Value} {x y : Str} {v u : Value} (H : Has env h y v) (hne : y ≠ x) (hm : h.Ns env.locals m) (hn : h'.Ns env.locals fun z => if z = x then some u else m z) (hs : Heap.SameBut env.locals h h') (hc : ∀ n c, env.cells.lookup n = some c → c ≠ env.locals) : Has env h' y v := by
  rcases H with ⟨e, m', hm', hv⟩ | ⟨e, c, hl, hv⟩
  · have := ns_unique hm hm'; subst this
    exact .inl ⟨e, _, hn, by simp [hne, hv]⟩
  · exact .inr ⟨e, c, hl, hv.sameBut hs (hc _ _ hl)⟩
theorem Has.setC {env : Env} {h h' : Heap} {x y : Str} {c : Addr} {v : Value} (H : Has env h y v) (hne : y ≠ x) (hx : env.cells.lookup x = some c) (hs : Heap.SameBut c h h') (hc : c ≠ env.locals) (inj : ∀ n n' c, env.cells.lookup n = some c → env.cells.lookup n' = some c → n = n') : Has env h' y v := by
  rcases H with ⟨e, m', hm', hv⟩ | ⟨e, c', hl, hv⟩
  · exact .inl ⟨e, m', hm'.sameBut hs (Ne.symm hc), hv⟩
  · exact .inr ⟨e, c', hl, hv.sameBut hs fun q => hne (inj _ _ _ (q ▸ hl) hx)⟩

/-- a name that the frame may store -/
noncomputable def isOwn (sc : Scope) (x : Str) : Bool := match sc.names.lookup x with
  | some .local | some .cell => true
  | _ => false

/-- x = v -/
theorem wp_store {A : Around} {B : Bs} {α : Str → Addr} {env : Env} {σ : List (Str × D)} {ω : List (Str × OC)} {g : PH} {s : Shared} {x : Str} {v : Value} {d : D} {Q : Unit → Shared → Prop} {E : Value → Shared → Prop} (O : SOk p w B α env σ ω g s) (hx : isOwn env.scope x = true) (hw : ω.lookup x = none)
    (r : Rp p w g d v) (h : ∀ s', SOk p w B α env ((x, d) :: σ) ω g s' → Q () s') : wpAny (model p w) A (storeName env x v) Q E s := by
  unfold isOwn at hx
  split at hx <;> rename_i hk
  · obtain ⟨m, hm⟩ := O.e.lns
    refine wpAny_storeName_local hk hm (fun h' hn hs => ?_) (by rw [O.e.kind]; rfl)
    refine h _ (O.poke O.offL.1 O.offL.2 hs (Nat.le_succ _) ⟨_, hn⟩ (fun n c hc => let ⟨u, hu⟩ := O.e.cells n c hc; ⟨u, hu.sameBut hs (O.offC n c hc).2.2⟩) (fun y d' hl hkn => ?_) fun y c hc => ?_)
    · rw [List.lookup_cons] at hl
      cases hb : y == x with
      | true =>
        rw [hb] at hl; cases hl
        have := eq_of_beq hb; subst this
        exact ⟨v, .inl ⟨hk, _, hn, by simp⟩, r⟩
      | false =>
        rw [hb] at hl
        obtain ⟨u, hu, rr⟩ := O.e.vars y d' hl hkn
        exact ⟨u, hu.setL (by simpa using hb) hm hn hs fun n c e => (O.offC n c e).2.2, rr⟩
    · obtain ⟨h1, h2, h3, h4, h5, h6⟩ := O.own y c hc
      have hne : y ≠ x := fun q => by rw [q, hw] at hc; cases hc
      exact ⟨⟨c, hc⟩, h2.at (.refl _) fun o e => (hs.2 _ h5).trans e, h1.setL hne hm hn hs fun n c e => (O.offC n c e).2.2⟩
  · obtain ⟨c, hc⟩ := Option.isSome_iff_exists.mp (O.e.hasc x (.inl hk))
    obtain ⟨v₀, hv₀⟩ := O.e.cells x c hc
    obtain ⟨o1, o2, o3⟩ := O.offC x c hc
    refine wpAny_storeName_cell O.e.kind hk hc hv₀ fun h' hv hs => ?_
    obtain ⟨m, hm⟩ := O.e.lns
    refine h _ (O.poke o1 o2 hs (Nat.le_refl _) ⟨m, hm.sameBut hs (Ne.symm o3)⟩ (fun n c' hc' => ?_) (fun y d' hl hkn => ?_) fun y c' hc' => ?_)
    · by_cases q : c' = c
      · subst q; exact ⟨_, hv⟩
      · obtain ⟨u, hu⟩ := O.e.cells n c' hc'; exact ⟨u, hu.sameBut hs q⟩
    · rw [List.lookup_cons] at hl
      cases hb : y == x with
      | true =>
        rw [hb] at hl; cases hl
        have := eq_of_beq hb; subst this
        exact ⟨v, .inr ⟨.inl hk, c, hc, hv⟩, r⟩
      | false =>
        rw [hb] at hl
        obtain ⟨u, hu, rr⟩ := O.e.vars y d' hl hkn
        exact ⟨u, hu.setC (by simpa using hb) hc hs o3 O.inj, rr⟩
    · obtain ⟨h1, h2, h3, h4, h5, h6⟩ := O.own y c' hc'
      have hne : y ≠ x := fun q => by rw [q, hw] at hc'; cases hc'
      exact ⟨⟨c', hc'⟩, h2.at (.refl _) fun o e => (hs.2 _ (h6 x c hc)).trans e, h1.setC hne hc hs o3 O.inj⟩
  · cases hx
end

/-- how a run of statements ends -/
inductive Out where
  | ret (d : D)
  | nxt (σ : List (Str × D)) (ω : List (Str × OC))
structure Ends (p : Program) (w : World) (B : Bs) (g : PH) (s : Shared) : Prop where
  same : ∃ h tk, s = { B.s₀ with heap := h, toks := tk }
  keep : ∀ b o, B.k₀ b = some o → s.heap.get? b = some o
  le : Le B.g₀ g
  sub : Sub g s.heap
  fresh : ∀ a o, g a = some o → B.g₀ a = some o ∨ B.new a
  tks : B.s₀.toks ≤ s.toks
  there : ∀ a, s.heap.get? a = none → B.new a
  xs : ∀ x ∈ B.xs, s.heap.get? x.1 = some x.2
noncomputable def Matches (p : Program) (w : World) (B : Bs) (env : Env) : Out → Flow → Shared → Prop
  | .ret d, f, s => ∃ v g, f = .ret v ∧ Rp p w g d v ∧ Ends p w B g s
  | .nxt σ ω, f, s => f = .next ∧ ∃ α g, SOk p w B α env σ ω g s
theorem SOk.ends {p : Program} {w : World} {B : Bs} {α : Str → Addr} {env : Env} {σ : List (Str × D)} {ω : List (Str × OC)} {g : PH} {s : Shared} (O : SOk p w B α env σ ω g s) : Ends p w B g s :=
  ⟨O.same, O.keep, O.le, O.e.sub, O.fresh, O.tks, O.old, fun x hx => (O.xs x hx).1⟩

/-- statements -/
structure Ws (p : Program) (k : Nat) (sc : Scope) (ss : List Stmt) (σ : List (Str × D)) (ω : List (Str × OC)) (P : Out → Prop) : Prop where
  go : ∀ (w : World) (A : Around) (env : Env) (B : Bs) (α : Str → Addr) (g : PH) (s : Shared) (Q : Flow → Shared → Prop) (E : Value → Shared → Prop), Rm k A → env.scope = sc → SOk p w B α env σ ω g s →
    (∀ o f s', P o → Matches p w B env o f s' → Q f s') → wpAny (model p w) A (execs ss env) Q E s
/-- one statement -/
structure Wx (p : Program) (k : Nat) (sc : Scope) (st : Stmt) (σ : List (Str × D)) (ω : List (Str × OC)) (P : Out → Prop) : Prop where
  go : ∀ (w : World) (A : Around) (env : Env) (B : Bs) (α : Str → Addr) (g : PH) (s : Shared) (Q : Flow → Shared → Prop) (E : Value → Shared → Prop), Rm k A → env.scope = sc → SOk p w B α env σ ω g s →
    (∀ o f s', P o → Matches p w B env o f s' → Q f s') → wpAny (model p w) A (exec st env) Q E s
/-- goes on -/
noncomputable def andThen (F : List (Str × D) → List (Str × OC) → Prop) (P : Out → Prop) : Out → Prop
  | .ret d => P (.ret d)
  | .nxt σ ω => F σ ω
section
variable {p : Program} {k : Nat} {sc : Scope} {σ : List (Str × D)} {ω : List (Str × OC)} {P : Out → Prop}
theorem ws_nil (h : P (.nxt σ ω)) : Ws p k sc [] σ ω P := .mk fun w A env B α g s Q E hA hs O hQ => wpAny_execs_nil (hQ _ _ s h ⟨rfl, α, g, O⟩)
theorem ws_cons {st : Stmt} {ss : List Stmt} (h : Wx p k sc st σ ω (andThen (fun σ' ω' => Ws p k sc ss σ' ω' P) P)) : Ws p k sc (st :: ss) σ ω P := .mk fun w A env B α g s Q E hA hs O hQ => by
  refine wpAny_execs_cons (h.go w A env B α g s _ E hA hs O fun o f s' ho hm => ?_)
  cases o with
  | ret d =>
    obtain ⟨v, g', rfl, r, e⟩ := hm
    exact hQ (.ret d) _ s' ho ⟨v, g', rfl, r, e⟩
  | nxt σ' ω' =>
    obtain ⟨rfl, α', g', O'⟩ := hm
    exact ho.go w A env B α' g' s' Q E hA hs O' hQ
/-- less is known -/
theorem ws_weak {ss : List Stmt} {σ' : List (Str × D)} (h : Ws p k sc ss σ' ω P) (hσ : ∀ x d, σ'.lookup x = some d → σ.lookup x = some d) : Ws p k sc ss σ ω P := .mk fun w A env B α g s Q E hA hs O hQ =>
  h.go w A env B α g s Q E hA hs { O with e := { O.e with vars := fun x d e => O.e.vars x d (hσ x d e) } } hQ
theorem lookup_of_all {σ' : List (Str × D)} (h : ∀ q ∈ σ', σ.lookup q.1 = some q.2) : ∀ x d, σ'.lookup x = some d → σ.lookup x = some d := fun x d e => h _ (mem_of_lookup e)
theorem ws_mono {ss : List Stmt} {P' : Out → Prop} (h : Ws p k sc ss σ ω P') (hP : ∀ o, P' o → P o) : Ws p k sc ss σ ω P := .mk fun w A env B α g s Q E hA hs O hQ =>
  h.go w A env B α g s Q E hA hs O fun o f s' ho => hQ o f s' (hP o ho)

theorem wx_return {e : Expr} {pos : Pos} {d : D} (h : Ev p k sc σ e d) (hP : P (.ret d)) : Wx p k sc (.Return (some e) pos) σ ω P := .mk fun w A env B α g s Q E hA hs O hQ =>
  wpAny_Return_some (h.go w A env g s _ E hA hs O.e fun v g' s' x r => hQ _ _ s' hP ⟨v, g', rfl, r, (O.step x).ends⟩)
theorem wx_assign {x : Str} {xp pos : Pos} {e : Expr} {d : D} (h : Ev p k sc σ e d) (hx : isOwn sc x = true) (hw : ω.lookup x = none) (hP : P (.nxt ((x, d) :: σ) ω))
    (hsw : ∀ env : Env, env.scope = sc → swapsWith e (some (.Name x xp)) pos.line env = pure false) : Wx p k sc (.Assign [.Name x xp] e pos) σ ω P := .mk fun w A env B α g s Q E hA hs O hQ =>
  wpAny_Assign_Name (h.go w A env g s _ E hA hs O.e fun v g' s' x' r => wp_store (O.step x') (hs ▸ hx) hw r fun s'' O'' => hQ _ _ s'' hP ⟨rfl, α, g', O''⟩) (hsw env hs)
theorem wx_if {t : Expr} {a b : List Stmt} {pos : Pos} {c : Bool} (ht : Et p k sc σ t c) (ha : c = true → Ws p k sc a σ ω P) (hb : c = false → Ws p k sc b σ ω P) : Wx p k sc (.If t a b pos) σ ω P := .mk fun w A env B α g s Q E hA hs O hQ => by
  refine wpAny_If (ht.go w A env g s _ E hA hs O.e fun g' s' x => ?_)
  cases c with
  | true => exact (ha rfl).go w A env B α g' s' Q E hA hs (O.step x) hQ
  | false => exact (hb rfl).go w A env B α g' s' Q E hA hs (O.step x) hQ
theorem wx_aug {x : Str} {op : Operator} {xp pos : Pos} {e : Expr} {a b d : D} (hl : σ.lookup x = some a) (hv : isVar sc x = true) (h : Ev p k sc σ e b) (ho : OpD p k (inplaceOp op) a b d) (hx : isOwn sc x = true) (hw : ω.lookup x = none) (hP : P (.nxt ((x, d) :: σ) ω)) :
    Wx p k sc (.AugAssign (.Name x xp) op e pos) σ ω P := .mk fun w A env B α g s Q E hA hs O hQ => by
  subst hs
  obtain ⟨h1, h2, h3⟩ := isVar.spec hv
  obtain ⟨v, hH, hr⟩ := O.e.vars x a hl h1
  refine wpAny_AugAssign_Name (wp_has O.e.kind hH ?_ h2)
  refine h.go w A env g s _ E hA rfl O.e fun v₂ g₂ s₂ x₂ r₂ => ?_
  have O₂ := O.step x₂
  exact ho.go w A g₂ s₂ v v₂ _ E hA O₂.e.sub O₂.e.gd O₂.e.tok (hr.mono x₂.le) r₂ fun r g' s' x' rr => wp_store (O₂.step x') hx hw rr fun s'' O'' => hQ _ _ s'' hP ⟨rfl, α, g', O''⟩
end
end Mine
end
section
open PySem PySem.Calls PyProof.Rows
set_option maxRecDepth 100000
set_option linter.unusedVariables false
namespace Mine
/-- a step of a call, on data -/
structure CallD (p : Program) (k : Nat) (f : Value) (ds : List D) (d : D) : Prop where
  go : ∀ (w : World) (A : Around) (g : PH) (s : Shared) (vs : List Value) (Q : Value → Shared → Prop) (E : Value → Shared → Prop), Rm k A → Sub g s.heap → Gd p w g → 1 ≤ s.toks → RpL p w g ds vs →
    (∀ r g' s', Stp g g' s s' → Rp p w g' d r → Q r s') → wpAny (model p w) A (call f vs) Q E s
noncomputable def IsFn (p : Program) (w : World) (g : PH) (f : Str) (a : Addr) : Prop := ∃ b mg mb, (∀ a o, b.get? a = some o → g a = some o) ∧ GdAt p w b mg mb ∧ mg f = some (.ref a)
/-- a def of the text's -/
structure FnD (p : Program) (k : Nat) (f : Str) (ds : List D) (d : D) : Prop where
  go : ∀ (w : World) (A : Around) (g : PH) (s : Shared) (vs : List Value) (a : Addr) (Q : Value → Shared → Prop) (E : Value → Shared → Prop), Rm k A → Sub g s.heap → IsFn p w g f a → 1 ≤ s.toks → RpL p w g ds vs →
    (∀ r g' s', Stp g g' s s' → Rp p w g' d r → Q r s') → wpAny (model p w) A (call (.ref a) vs) Q E s
section
variable {p : Program} {k : Nat} {sc : Scope} {σ : List (Str × D)}
theorem IsFn.mono {w : World} {g g' : PH} {f : Str} {a : Addr} (h : IsFn p w g f a) (l : Le g g') : IsFn p w g' f a := let ⟨b, mg, mb, h1, h2, h3⟩ := h; ⟨b, mg, mb, fun a o e => l _ _ (h1 a o e), h2, h3⟩

theorem wp_args {w : World} {A : Around} {env : Env} {g : PH} {s : Shared} {f : Value} {e : Expr} {es : List Expr} {ds : List D} {pos : Pos} {Q : Args → Shared → Prop} {E : Value → Shared → Prop}
    (h : Evs p k sc σ (e :: es) ds) (he : ∀ env, starEach (e :: es) env = (false, eval e env) :: starEach es env) (hA : Rm k A) (hs : env.scope = sc) (O : EOk p w env σ g s)
    (hQ : ∀ vs g' s', Stp g g' s s' → RpL p w g' ds vs → Q ⟨vs, []⟩ s') : wpAny (model p w) A (evalArgs f true (backTo pos (starEach (e :: es) env)) []) Q E s := by
  have h' := h.go w A env g s pos (fun vs s' => Q ⟨vs, []⟩ s') E hA hs O hQ
  rw [he] at h' ⊢
  exact evalArgs_plain h'
theorem noStar {e : Expr} {es : List Expr} {env : Env} {pos : Pos} (h : (starEach (e :: es) env).any (·.1) = false) : (backTo pos (starEach (e :: es) env)).any (·.1) = false := by
  unfold backTo; rw [List.any_map]; exact h

theorem ev_callb {x : Str} {np pos : Pos} {e : Expr} {es : List Expr} {id : String} {ds : List D} {d : D} (hx : x ∈ blts) (hb : bootBuiltins x = some (.builtin id)) (hk : sc.names.lookup x = some .globalImplicit) (hargs : Evs p k sc σ (e :: es) ds)
    (hc : CallD p k (.builtin id) ds d) (he : ∀ env, starEach (e :: es) env = (false, eval e env) :: starEach es env := by intro _; rfl) (hst : ∀ env, (starEach (e :: es) env).any (·.1) = false := by intro _; rfl) (hd : (x == ("__debug__" : Str)) = false := by decide) :
    Ev p k sc σ (.Call (.Name x np) (e :: es) [] pos) d := .mk fun w A env g s Q E hA hs O hQ => by
  subst hs
  refine wpAny_Call_Name_kw ?_
  obtain ⟨b, mg, mb, hbb, G⟩ := O.gd
  have kp : ∀ a o, b.get? a = some o → s.heap.get? a = some o := fun a o e => O.sub a o (hbb a o e)
  refine Calls.Name_function_global O.kind hk (Calls.loadGlobal_builtin (mg := mg) (mb := mb) (O.glob ▸ G.glob.keeps kp) (G.miss x hx) (O.blt ▸ G.blt.keeps kp) ((G.boot x hx).trans hb) ?_) hd
  refine Calls.callWith_builtin (noStar (hst env)) (wp_args hargs he hA rfl O fun vs g' s' x' r => ?_)
  exact hc.go w A g' s' vs Q E hA x'.sub (O.gd.mono x'.le) (Nat.le_trans O.tok x'.tks) r fun r g'' s'' y rr => hQ r g'' s'' (x'.trans y) rr
theorem ev_callt {x : Str} {np pos : Pos} {e : Expr} {es : List Expr} {T : String} {ds : List D} {d : D} (hx : x ∈ blts) (hb : bootBuiltins x = some (.type T)) (hk : sc.names.lookup x = some .globalImplicit) (hargs : Evs p k sc σ (e :: es) ds)
    (hc : CallD p k (.type T) ds d) (he : ∀ env, starEach (e :: es) env = (false, eval e env) :: starEach es env := by intro _; rfl) (hst : ∀ env, (starEach (e :: es) env).any (·.1) = false := by intro _; rfl) (hd : (x == ("__debug__" : Str)) = false := by decide) :
    Ev p k sc σ (.Call (.Name x np) (e :: es) [] pos) d := .mk fun w A env g s Q E hA hs O hQ => by
  subst hs
  refine wpAny_Call_Name_kw ?_
  obtain ⟨b, mg, mb, hbb, G⟩ := O.gd
  have kp : ∀ a o, b.get? a = some o → s.heap.get? a = some o := fun a o e => O.sub a o (hbb a o e)
  refine Calls.Name_function_global O.kind hk (Calls.loadGlobal_builtin (mg := mg) (mb := mb) (O.glob ▸ G.glob.keeps kp) (G.miss x hx) (O.blt ▸ G.blt.keeps kp) ((G.boot x hx).trans hb) ?_) hd
  refine PySem.callWith_type (noStar (hst env)) (wp_args hargs he hA rfl O fun vs g' s' x' r => ?_)
  exact hc.go w A g' s' vs Q E hA x'.sub (O.gd.mono x'.le) (Nat.le_trans O.tok x'.tks) r fun r g'' s'' y rr => hQ r g'' s'' (x'.trans y) rr
/-- a call of a def -/
theorem ev_call {f : Str} {np pos : Pos} {e : Expr} {es : List Expr} {ds : List D} {d : D} {fd : FD} (hf : fd ∈ fds p) (hn : fd.name = f) (hk : sc.names.lookup f = some .globalImplicit) (hargs : Evs p k sc σ (e :: es) ds) (hc : FnD p k f ds d)
    (he : ∀ env, starEach (e :: es) env = (false, eval e env) :: starEach es env := by intro _; rfl) (hd : (f == ("__debug__" : Str)) = false := by decide) :
    Ev p k sc σ (.Call (.Name f np) (e :: es) [] pos) d := .mk fun w A env g s Q E hA hs O hQ => by
  subst hs hn
  refine wpAny_Call_Name_kw ?_
  obtain ⟨b, mg, mb, hbb, G⟩ := O.gd
  have kp : ∀ a o, b.get? a = some o → s.heap.get? a = some o := fun a o e => O.sub a o (hbb a o e)
  obtain ⟨a, o, pm, cd, doc, hm, ho, hdat, hcd⟩ := G.fn fd hf
  refine Calls.Name_function_global O.kind hk (Calls.loadGlobal_global (mg := mg) (O.glob ▸ G.glob.keeps kp) hm ?_) hd
  refine Calls.callWith_function (o := o) (wp_args hargs he hA rfl O fun vs g' s' x' r => ⟨⟨x'.keep _ _ (kp _ _ ho), hdat⟩, ?_⟩)
  have F : IsFn p w g fd.name a := ⟨b, mg, mb, hbb, G, hm⟩
  exact hc.go w A g' s' vs a Q E hA x'.sub (F.mono x'.le) (Nat.le_trans O.tok x'.tks) r fun r g'' s'' y rr => hQ r g'' s'' (x'.trans y) rr

/-- the frame that a call begins with -/
noncomputable def retP (d : D) : Out → Prop := fun o => o = .ret d
theorem bindL_eq {kindOf : Str → Option NameKind} {x : Str} (h : kindOf x = some .local) : ∀ (l : List (Str × Value)) (m : Str → Option Value), (l.map (·.1)).Nodup → bindL kindOf l m x = (l.lookup x).or (m x)
  | [], m, _ => by simp [bindL]
  | (n, v) :: r, m, hnd => by
    obtain ⟨h1, h2⟩ := List.nodup_cons.mp hnd
    rw [bindL, bindL_eq h r _ h2, List.lookup_cons]
    by_cases q : x = n
    · subst q
      have : r.lookup x = none := by
        cases e : r.lookup x with
        | none => rfl
        | some u => exact absurd (List.mem_map_of_mem (f := Prod.fst) (mem_of_lookup e)) h1
      simp [h, this]
    · have q' : (x == n) = false := by simpa using q
      rw [q']
      by_cases q2 : kindOf n = some .local
      · rw [if_pos q2]; simp [q]
      · rw [if_neg q2]
theorem bindC_eq {kindOf : Str → Option NameKind} {x : Str} (h : kindOf x = some .cell) : ∀ (l : List (Str × Value)) (m : Str → Option Value), (l.map (·.1)).Nodup → bindC kindOf l m x = (l.lookup x).or (m x)
  | [], m, _ => by simp [bindC]
  | (n, v) :: r, m, hnd => by
    obtain ⟨h1, h2⟩ := List.nodup_cons.mp hnd
    rw [bindC, bindC_eq h r _ h2, List.lookup_cons]
    by_cases q : x = n
    · subst q
      have : r.lookup x = none := by
        cases e : r.lookup x with
        | none => rfl
        | some u => exact absurd (List.mem_map_of_mem (f := Prod.fst) (mem_of_lookup e)) h1
      simp [h, this]
    · have q' : (x == n) = false := by simpa using q
      rw [q']
      by_cases q2 : kindOf n = some .local
      · rw [if_pos q2]
      · rw [if_neg q2]; simp [q]
theorem zip_lookup {w : World} {g : PH} : ∀ {ns : List Str} {ds : List D} {vs : List Value} {x : Str} {d : D}, RpL p w g ds vs → (ns.zip ds).lookup x = some d → ∃ v, (ns.zip vs).lookup x = some v ∧ Rp p w g d v
  | [], _, _, _, _, _, h => by simp at h
  | _ :: _, [], _, _, _, _, h => by simp at h
  | n :: ns, d :: ds, vs, x, d', hr, h => by
    rw [RpL] at hr
    obtain ⟨v, vs', rfl, h1, h2⟩ := hr
    rw [List.zip_cons_cons, List.lookup_cons] at h ⊢
    cases q : x == n with
    | true => rw [q] at h; cases h; exact ⟨v, rfl, h1⟩
    | false => rw [q] at h; exact zip_lookup h2 h

theorem cells_isSome : ∀ (names : List (Str × NameKind)) (n : Nat) (acc : List (Str × Addr)) (x : Str), (names.lookup x = some .cell ∨ (acc.lookup x).isSome = true) → ((cellsFrom n names acc).lookup x).isSome = true
  | [], n, acc, x, h => by
    rcases h with h | h
    · simp at h
    · simpa [cellsFrom] using h
  | (y, kd) :: r, n, acc, x, h => by
    unfold cellsFrom
    by_cases hk : (kd == NameKind.cell) = true
    · rw [if_pos hk]
      refine cells_isSome r (n + 1) _ x ?_
      rw [List.lookup_cons]
      cases q : x == y with
      | true => exact .inr rfl
      | false =>
        rcases h with h | h
        · rw [List.lookup_cons, q] at h; exact .inl h
        · exact .inr h
    · rw [if_neg hk]
      refine cells_isSome r n acc x ?_
      rcases h with h | h
      · rw [List.lookup_cons] at h
        cases q : x == y with
        | true => rw [q] at h; cases h; exact absurd rfl hk
        | false => rw [q] at h; exact .inl h
      · exact .inr h

theorem call_cells_tk {w : World} {A : Around} {s : Shared} {R : Result → Shared → Prop} {a : Addr} {o : Obj} {fd : FuncData} {body : List Stmt} {vals : List Value} {binds : List (Str × Value)}
    (hroom : A.depth < recursionLimit) (ho : s.heap.get? a = some o) (hdata : o.data = .func fd) (hlim : s.heap.NoLimit) (hcd : s.heap.CodeRec fd.code fd.qualname)
    (hbody : fd.body = .stmts body) (hbind : bindArgs fd ⟨vals, []⟩ = pure binds) (hclo : fd.closure = [])
    (hkind : ∀ x ∈ binds, fd.scope.names.lookup x.1 = some .local ∨ (fd.scope.names.lookup x.1 = some .cell ∧ ((cellsFrom (s.heap.objs.size + 1) fd.scope.names []).lookup x.1).isSome = true))
    (h : ∀ s₁, s.toks ≤ s₁.toks → InCallC s (callEnvC fd s.heap.objs.size a).locals (bindL (callEnvC fd s.heap.objs.size a).kindOf binds fun _ => none) (callEnvC fd s.heap.objs.size a).cells
        (bindC (callEnvC fd s.heap.objs.size a).kindOf binds fun _ => none) s₁ →
      wpAny (model p w) (A.deeper (callEnvC fd s.heap.objs.size a)) (execs body (callEnvC fd s.heap.objs.size a)) (fun f s' => R (.ok (.ret (match f with | .ret v => v | _ => .none))) s')
        (fun e s' => wpAny (model p w) (A.deeper (callEnvC fd s.heap.objs.size a)) (leaving (callEnvC fd s.heap.objs.size a) e) (fun _ s'' => R (.error e) s'') (fun e' s'' => R (.error e') s'') s') s₁)
    (hco : fd.scope.isCoroutine = false) (hgen : fd.scope.isGenerator = false) (hk : fd.scope.kind = .function) :
    codeAny (model p w) A (.call (.ref a) ⟨vals, []⟩) R s := by
  refine codeAny_call_function hroom ho hdata hco hgen hbody hcd ?_
  rw [hbind, hclo]
  refine wpAny_pure (wpAny_with_toks (n := s.toks) (Nat.le_refl _) (wpAny_mono (wpAny_newFunctionEnv_cells hk hkind fun env he s' x htk => ?_) (fun _ _ x => x) (fun _ _ x _ => x)))
  subst he
  exact ⟨hlim.keeps x.toInCall.keep, codeAny_func (h s' htk x)⟩

/-- a def, by its body -/
theorem fn_intro {fd : FD} {ds : List D} {d : D} (hm : fd ∈ fds p) (hbind : ∀ pm cd doc (vs : List Value), vs.length = ds.length → bindArgs (docDef fd.name fd.params fd.body fd.scope pm cd doc) ⟨vs, []⟩ = pure ((fd.params.args.map (·.arg)).zip vs))
    (hl : (fd.params.args.map (·.arg)).length = ds.length) (hnd : (fd.params.args.map (·.arg)).Nodup) (hown : (fd.params.args.map (·.arg)).all (isOwn fd.scope) = true) (hk : fd.scope.kind = .function) (hco : fd.scope.isCoroutine = false) (hgen : fd.scope.isGenerator = false)
    (hfree : fd.scope.names.all (fun x => x.2 != .free) = true)
    (h : Ws p k fd.scope fd.body ((fd.params.args.map (·.arg)).zip ds) [] (fun o => o = .ret d)) : FnD p (k + 1) fd.name ds d := .mk fun w A g s vs a Q E hA S F hT hr hQ => by
  obtain ⟨b, mg, mb, hbb, G, hma⟩ := F
  have kp : ∀ a o, b.get? a = some o → s.heap.get? a = some o := fun a o e => S a o (hbb a o e)
  obtain ⟨a', o, pm, cd, doc, hm', ho, hdat, hcd⟩ := G.fn fd hm
  rw [hma] at hm'; cases hm'
  have hlen := hr.length
  have hnames : ∀ x ∈ (fd.params.args.map (·.arg)).zip vs, isOwn fd.scope x.1 = true := fun x hx => List.all_eq_true.mp hown _ (List.of_mem_zip hx).1
  have hnd' : (((fd.params.args.map (·.arg)).zip vs).map (·.1)).Nodup := by
    rw [List.map_fst_zip (by rw [hl, hlen]; exact Nat.le_refl _)]; exact hnd
  refine wpAny_call (call_cells_tk hA.room (kp _ _ ho) hdat (G.lim.keeps kp) (hcd.keeps kp) rfl (hbind pm cd doc vs hlen) rfl (fun x hx => ?_) (fun s₁ htk X => ?_) hco hgen hk)
  · have := hnames x hx
    unfold isOwn at this
    split at this <;> rename_i e
    · exact .inl e
    · exact .inr ⟨e, cells_isSome _ _ _ _ (.inl e)⟩
    · cases this
  · have ⟨h₁, tk, he⟩ := X.toInCall.same
    have hL : (callEnvC (docDef fd.name fd.params fd.body fd.scope pm cd doc) s.heap.objs.size a).locals = s.heap.objs.size := rfl
    have keep := X.toInCall.keep
    have snone : ∀ c, s.heap.objs.size ≤ c → s.heap.get? c = none := fun c hc => by
      cases e : s.heap.get? c with
      | none => rfl
      | some o' => exact absurd (Heap.lt_size e) (Nat.not_lt.mpr hc)
    have gnone : ∀ c, s.heap.objs.size ≤ c → g c = none := fun c hc => by
      cases e : g c with
      | none => rfl
      | some o' => exact absurd (sub_lt S e) (Nat.not_lt.mpr hc)
    have vars : ∀ x d, ((fd.params.args.map (·.arg)).zip ds).lookup x = some d → known (callEnvC (docDef fd.name fd.params fd.body fd.scope pm cd doc) s.heap.objs.size a) x → ∃ v, Has (callEnvC (docDef fd.name fd.params fd.body fd.scope pm cd doc) s.heap.objs.size a) s₁.heap x v ∧ Rp p w g d v := by
      intro x d hx hkn
      obtain ⟨v, hv, rr⟩ := zip_lookup hr hx
      have hox := hnames (x, v) (mem_of_lookup hv)
      refine ⟨v, ?_, rr⟩
      unfold isOwn at hox
      split at hox <;> rename_i e
      · exact .inl ⟨e, _, X.toInCall.ns, by rw [bindL_eq (by exact e) _ _ hnd']; simp [hv]⟩
      · obtain ⟨c, hc⟩ := Option.isSome_iff_exists.mp (cells_isSome fd.scope.names (s.heap.objs.size + 1) [] x (.inl e))
        refine .inr ⟨.inl e, c, hc, ?_⟩
        have := X.cell x c hc
        rw [bindC_eq (by exact e) _ _ hnd'] at this
        simpa [hv] using this
      · cases hox
    have O : SOk p w ⟨s, s.heap.get?, g, []⟩ (fun _ => 0) (callEnvC (docDef fd.name fd.params fd.body fd.scope pm cd doc) s.heap.objs.size a) ((fd.params.args.map (·.arg)).zip ds) [] g s₁ :=
      { e := { sub := fun a o e => keep a o (S a o e), gd := ⟨b, mg, mb, hbb, G⟩, tok := Nat.le_trans hT htk, kind := hk, glob := rfl, blt := rfl, lns := ⟨_, X.toInCall.ns⟩, cells := fun n c hc => ⟨_, X.cell n c hc⟩,
               hasc := fun x hx => by
                 rcases hx with hx | hx
                 · exact cells_isSome _ _ _ _ (.inl hx)
                 · have := List.all_eq_true.mp hfree (x, .free) (mem_of_lookup hx)
                   simp at this
               vars := vars }
        same := ⟨h₁, tk, he⟩
        keep := keep
        klt := fun b o e => e
        le := .refl g
        fresh := fun a o e => .inl e
        old := fun a e => none_of_keep keep e
        tks := htk
        xs := fun x hx => by cases hx
        offL := ⟨gnone _ (Nat.le_refl _), snone _ (Nat.le_refl _)⟩
        offC := fun n c hc => by
          have hlt := X.above n c (mem_of_lookup hc)
          rw [hL] at hlt
          exact ⟨gnone c (Nat.le_of_lt hlt), snone c (Nat.le_of_lt hlt), Nat.ne_of_gt hlt⟩
        inj := fun n n' c h1 h2 => name_of_addr X.apart (mem_of_lookup h1) (mem_of_lookup h2)
        own := fun x c hc => by simp at hc
        apart := fun x y c d hx => by simp at hx }
    refine h.go w _ _ _ _ g s₁ _ _ (hA.deeper _) rfl O fun out f s' ho hmt => ?_
    subst ho
    obtain ⟨v, g', rfl, rr, En⟩ := hmt
    exact hQ v g' s' ⟨En.le, En.sub, En.fresh, En.keep, En.same, En.tks⟩ rr
end
end Mine
end
section
open PySem PySem.Calls PyProof.Rows
open Builtin Builtin.Str
set_option maxRecDepth 100000
set_option linter.unusedVariables false
namespace Mine
theorem RpL.one_inv {p : Program} {w : World} {g : PH} {d : D} {vs : List Value} (h : RpL p w g [d] vs) : ∃ v, vs = [v] ∧ Rp p w g d v := by
  rw [RpL] at h; obtain ⟨v, vs', rfl, h1, h2⟩ := h; rw [RpL] at h2; subst h2; exact ⟨v, rfl, h1⟩
theorem RpL.two_inv {p : Program} {w : World} {g : PH} {d e : D} {vs : List Value} (h : RpL p w g [d, e] vs) : ∃ v u, vs = [v, u] ∧ Rp p w g d v ∧ Rp p w g e u := by
  rw [RpL] at h; obtain ⟨v, vs', rfl, h1, h2⟩ := h; obtain ⟨u, rfl, h3⟩ := h2.one_inv; exact ⟨v, u, rfl, h1, h3⟩
theorem RpL.three_inv {p : Program} {w : World} {g : PH} {d e f : D} {vs : List Value} (h : RpL p w g [d, e, f] vs) : ∃ v u t, vs = [v, u, t] ∧ Rp p w g d v ∧ Rp p w g e u ∧ Rp p w g f t := by
  rw [RpL] at h; obtain ⟨v, vs', rfl, h1, h2⟩ := h; obtain ⟨u, t, rfl, h3, h4⟩ := h2.two_inv; exact ⟨v, u, t, rfl, h1, h3, h4⟩
theorem intsAre {p : Program} {w : World} {g : PH} : ∀ {ns : List Int} {vs : List Value}, RpL p w g (ns.map D.int) vs → IntsAre vs ns
  | [], vs, h => by rw [List.map_nil, RpL] at h; subst h; exact .nil
  | n :: ns, vs, h => by
    rw [List.map_cons, RpL] at h
    obtain ⟨v, vs', rfl, h1, h2⟩ := h
    rw [Rp.int_iff] at h1
    obtain ⟨t, rfl⟩ := h1
    exact .cons n t (intsAre h2)

section
variable {prog : Program} {w : World} {A : Around} {E : Value → Shared → Prop} {s : Shared} {Q : Value → Shared → Prop}
open PySem.Flt in
theorem max_three_num {a b c : Value} (hh : A.handled = none) (ha : NumV a) (hb : NumV b) (hc : NumV c)
    (h : ∀ h' tk, (∀ c o, s.heap.get? c = some o → h'.get? c = some o) → Q (if ltV (if ltV a b then b else a) c then c else if ltV a b then b else a) { s with heap := h', toks := tk }) :
    wpAny (model prog w) A (call (.builtin "max") [a, b, c]) Q E s := by
  have hT : (s.heap.push { cls := .type "tuple", data := .seq #[a, b, c] }).IsTuple s.heap.objs.size #[a, b, c] := ⟨_, Heap.get?_push_size _ rfl, rfl, 0, rfl⟩
  refine call_max_three (wpAny_pyIter_tuple hT ?_)
  have hsz : (s.heap.push { cls := .type "tuple", data := .seq #[a, b, c] }).objs.size = s.heap.objs.size + 1 := Heap.size_push ..
  refine ⟨_, [_, s.heap.objs.size], [_], _, _, _, _, rfl, Walks.tuple (A := A.in1) hh _ s.heap.objs.size (by rw [hsz]; exact Nat.ne_of_lt (Nat.lt_succ_self _)) #[a, b, c],
    ⟨⟨_, Heap.get?_push_size _ rfl, rfl, rfl⟩, hT.push _⟩, fun c hc => ?_, by simp, cmpOf_gt #[a, b, c] (by simp [ha, hb, hc]), fun v h' tk hP hk => ?_⟩
  · show c < ((s.heap.push _).push _).objs.size
    rw [Heap.size_push, hsz]
    rcases List.mem_cons.mp hc with rfl | hc
    · rw [hsz]; exact Nat.lt_succ_self _
    · rcases List.mem_cons.mp hc with rfl | hc
      · exact Nat.lt_succ_of_lt (Nat.lt_succ_self _)
      · cases hc
  · have hold : ∀ c o, s.heap.get? c = some o → h'.get? c = some o := fun c o e => by
      refine hk c o (fun hm => ?_) (Heap.get?_push_of_some _ (Heap.get?_push_of_some _ e))
      rcases List.mem_cons.mp hm with e1 | hm
      · have := Heap.lt_size e; rw [e1, hsz] at this; exact Nat.lt_irrefl _ (Nat.lt_of_succ_lt this)
      · cases hm
    have := h h' tk hold
    have hv : v = if ltV (if ltV a b then b else a) c then c else if ltV a b then b else a := by
      cases hc : ltV a b
      · cases hd : ltV a c <;> simp [argBest, hc, hd] at hP <;> (subst hP; simp [hd])
      · cases hd : ltV b c <;> simp [argBest, hc, hd] at hP <;> (subst hP; simp [hd])
    rw [hv]; exact this
open PySem.Flt in
theorem min_three_num {a b c : Value} (hh : A.handled = none) (ha : NumV a) (hb : NumV b) (hc : NumV c)
    (h : ∀ h' tk, (∀ c o, s.heap.get? c = some o → h'.get? c = some o) → Q (if ltV c (if ltV b a then b else a) then c else if ltV b a then b else a) { s with heap := h', toks := tk }) :
    wpAny (model prog w) A (call (.builtin "min") [a, b, c]) Q E s := by
  have hT : (s.heap.push { cls := .type "tuple", data := .seq #[a, b, c] }).IsTuple s.heap.objs.size #[a, b, c] := ⟨_, Heap.get?_push_size _ rfl, rfl, 0, rfl⟩
  refine call_min_three (wpAny_pyIter_tuple hT ?_)
  have hsz : (s.heap.push { cls := .type "tuple", data := .seq #[a, b, c] }).objs.size = s.heap.objs.size + 1 := Heap.size_push ..
  refine ⟨_, [_, s.heap.objs.size], [_], _, _, _, _, rfl, Walks.tuple (A := A.in1) hh _ s.heap.objs.size (by rw [hsz]; exact Nat.ne_of_lt (Nat.lt_succ_self _)) #[a, b, c],
    ⟨⟨_, Heap.get?_push_size _ rfl, rfl, rfl⟩, hT.push _⟩, fun c hc => ?_, by simp, cmpOf_lt #[a, b, c] (by simp [ha, hb, hc]), fun v h' tk hP hk => ?_⟩
  · show c < ((s.heap.push _).push _).objs.size
    rw [Heap.size_push, hsz]
    rcases List.mem_cons.mp hc with rfl | hc
    · rw [hsz]; exact Nat.lt_succ_self _
    · rcases List.mem_cons.mp hc with rfl | hc
      · exact Nat.lt_succ_of_lt (Nat.lt_succ_self _)
      · cases hc
  · have hold : ∀ c o, s.heap.get? c = some o → h'.get? c = some o := fun c o e => by
      refine hk c o (fun hm => ?_) (Heap.get?_push_of_some _ (Heap.get?_push_of_some _ e))
      rcases List.mem_cons.mp hm with e1 | hm
      · have := Heap.lt_size e; rw [e1, hsz] at this; exact Nat.lt_irrefl _ (Nat.lt_of_succ_lt this)
      · cases hm
    have := h h' tk hold
    have hv : v = if ltV c (if ltV b a then b else a) then c else if ltV b a then b else a := by
      cases hc : ltV b a
      · cases hd : ltV c a <;> simp [argBest, hc, hd] at hP <;> (subst hP; simp [hd])
      · cases hd : ltV c b <;> simp [argBest, hc, hd] at hP <;> (subst hP; simp [hd])
    rw [hv]; exact this

theorem call_split {x y : Str} {t u : Tok} (hy : (y.length == 0) = false) (hsz : x.length ≤ sizeLine) (hsz2 : (partsBetween x (occurrences x y 0 x.length (x.length + 1)) y.length).length ≤ sizeLine)
    (hq : ∀ l tk, l.map (·.1) = Txt.split x y → Q (.ref s.heap.objs.size) { s with heap := s.heap.push (lstO (strValues l) 0), toks := tk }) : wpAny (model prog w) A (call (.builtin "str.split") [.str x t, .str y u]) Q E s := by
  cases h1 : (decide (x.length < y.length) || decide (Builtin.Str.strKind x < Builtin.Str.strKind y))
  · cases hf : (occurrences x y 0 x.length (x.length + 1)).isEmpty
    · refine call_meets F.slot_str_split (typeIs_str _ _ _) F.entry_str_split (F.args_str_split_2 _ _) (meets_str_split_sep x y t u h1 hy hf hsz hsz2) ?_
      show wants Q E _ { s with toks := _, heap := s.heap.push { cls := .type "list", data := .seq (strsFrom s.toks (partsBetween x (occurrences x y 0 x.length (x.length + 1)) y.length)).toArray } }
      rw [strsFrom_eq]
      exact hq (numbered s.toks _) _ ((numbered_texts _ _).trans ((if_neg (ne_true_of_eq_false h1)).trans (if_neg (ne_true_of_eq_false hf))).symm)
    · exact call_meets F.slot_str_split (typeIs_str _ _ _) F.entry_str_split (F.args_str_split_2 _ _) (meets_str_split_not_found x y t u h1 hy hf)
        (hq [(x, t)] s.toks ((if_neg (ne_true_of_eq_false h1)).trans (if_pos hf)).symm)
  · exact call_meets F.slot_str_split (typeIs_str _ _ _) F.entry_str_split (F.args_str_split_2 _ _) (meets_str_split_cannot_occur x y t u h1)
      (hq [(x, t)] s.toks (if_pos h1).symm)

/-- text.find(part, from, to) -/
noncomputable def find4 (x y : Str) (i j : Int) : Int := match occurrences x y (fromIndex x.length i) (min (fromIndex x.length j) x.length) 1 with | k :: _ => (k : Int) | [] => -1
theorem gives_find4 (x y : Str) (i j : Int) (t u v z : Tok) : Gives («str.find» ⟨[.str x t, .str y u, .int i v, .int j z], []⟩) (.int (find4 x y i j)) := by
  unfold find4
  show Gives (match occurrences x y (fromIndex x.length i) (min (fromIndex x.length j) x.length) 1 with | k :: _ => retInt k | [] => (do rule "str.find.not-found"; retInt (-1))) _
  cases occurrences x y (fromIndex x.length i) (min (fromIndex x.length j) x.length) 1 with
  | nil => exact .rule (.of_eq rfl)
  | cons k _ => exact .of_eq rfl
end

section
variable {p : Program} {k : Nat}
theorem c_len_list {l : List D} (hz : l.length < 2 ^ 62) : CallD p k (.builtin "len") [.lst l] (.int l.length) := .mk fun w A g s vs Q E hA S G hT r hQ => by
  obtain ⟨v, rfl, r1⟩ := r.one_inv
  obtain ⟨a, n, us, rfl, hx, hl, hr, ho⟩ := r1.isL S
  have := hr.length
  refine call_len_list hl (by simp; omega) (hQ _ g _ (.tok S (by omega)) (Rp.int_iff.mpr ⟨s.toks + 1, ?_⟩))
  simp [this]
theorem c_len_str {x : Str} (hz : x.length < 2 ^ 62) : CallD p k (.builtin "len") [.str x] (.int x.length) := .mk fun w A g s vs Q E hA S G hT r hQ => by
  obtain ⟨v, rfl, r1⟩ := r.one_inv
  rw [Rp.str_iff] at r1
  obtain ⟨t, rfl⟩ := r1
  exact PySem.P.len_str (by omega) (hQ _ g _ (.tok S (by omega)) (.int _))
theorem c_range {n : Int} (h0 : 0 ≤ n) : CallD p k (.type "range") [.int n] (.rng n.toNat) := .mk fun w A g s vs Q E hA S G hT r hQ => by
  obtain ⟨v, rfl, r1⟩ := r.one_inv
  rw [Rp.int_iff] at r1
  obtain ⟨t, rfl⟩ := r1
  refine call_range_1 ?_
  have y : Stp g (g.put s.heap.objs.size { cls := .type "range", data := .fields #[.int 0 s.toks, .int n t, .int 1 (s.toks + 1)] }) s { s with heap := s.heap.push { cls := .type "range", data := .fields #[.int 0 s.toks, .int n t, .int 1 (s.toks + 1)] }, toks := s.toks + 1 + 1 } :=
    Stp.new S (get?_size _) (Heap.get?_push_size _ rfl) (fun b o e => Heap.get?_push_of_some _ e) (by omega)
  refine hQ _ _ _ y (Rp.rng_iff.mpr ⟨_, s.toks, t, s.toks + 1, rfl, ?_⟩)
  rw [PH.put_self, Int.toNat_of_nonneg h0]
theorem c_sum {ns : List Int} : CallD p k (.builtin "sum") [.lst (ns.map D.int)] (.int ns.sum) := .mk fun w A g s vs Q E hA S G hT r hQ => by
  obtain ⟨v, rfl, r1⟩ := r.one_inv
  obtain ⟨a, n, us, rfl, hx, hl, hr, ho⟩ := r1.isL S
  have hi := intsAre hr
  obtain ⟨xs, hx⟩ := hi.allInts.items
  have hl' : s.heap.IsList a (intItems xs) := hx ▸ hl
  refine wpAny_with_toks (n := s.toks) (Nat.le_refl _) (sum_intListG hA.1 hl' fun h' tk t' hk hle => ?_)
  have e1 : ns = xs.toList.map (·.1) := by
    rw [← nums_intItems, ← hx]
    exact (show numsOf us.toArray.toList = ns from hi.numsOf).symm
  have e2 : preSum (numAt xs) xs.size = ns.sum := by
    rw [preSum_eq, List.take_of_length_le (by simp), e1]
  rw [e2]
  exact hQ _ g _ (.grow S hk hle) (.int _)
/-- the least of some ints -/
noncomputable def leastI : List Int → Int
  | [] => 0
  | [x] => x
  | x :: y :: l => min x (leastI (y :: l))
theorem leastI_spec : ∀ (l : List Int), l ≠ [] → leastI l ∈ l ∧ ∀ a ∈ l, leastI l ≤ a
  | [], h => absurd rfl h
  | [x], _ => ⟨by simp [leastI], by simp [leastI]⟩
  | x :: y :: l, _ => by
    obtain ⟨h1, h2⟩ := leastI_spec (y :: l) (by simp)
    rw [leastI]
    constructor
    · rcases Int.le_total x (leastI (y :: l)) with h | h
      · rw [Int.min_eq_left h]; exact .head _
      · rw [Int.min_eq_right h]; exact .tail _ h1
    · intro a ha
      rcases List.mem_cons.mp ha with rfl | ha
      · exact Int.min_le_left _ _
      · exact Int.le_trans (Int.min_le_right _ _) (h2 a ha)
theorem c_min_list {ns : List Int} (hne : ns ≠ []) : CallD p k (.builtin "min") [.lst (ns.map D.int)] (.int (leastI ns)) := .mk fun w A g s vs Q E hA S G hT r hQ => by
  obtain ⟨v, rfl, r1⟩ := r.one_inv
  obtain ⟨a, n, us, rfl, hx, hl, hr, ho⟩ := r1.isL S
  have hi := intsAre hr
  have hl0 : 0 < ns.length := by cases ns with | nil => exact absurd rfl hne | cons _ _ => simp
  obtain ⟨xs, e⟩ := hi.allInts.items
  have hns : ns = xs.toList.map (·.1) := by rw [← hi.numsOf, ← nums_intItems, ← e]
  have hsz : 0 < xs.size := by
    have h3 := hl0; rw [hns, List.length_map, Array.length_toList] at h3; exact h3
  rw [e] at hl
  refine wpAny_with_toks (n := s.toks) (Nat.le_refl _) (min_intList hA.1 hl hsz fun v h' tk hv hk hle => ?_)
  obtain ⟨t, rfl⟩ := intItems_at hv
  obtain ⟨h1, h2⟩ := argBest_lt (numAt xs) (xs.size - 1)
  have hM : numAt xs (argBest (fun i j => decide (numAt xs i < numAt xs j)) (xs.size - 1)) ∈ ns := by
    rw [hns, numAt_eq]; exact getD_mem (by rw [List.length_map, Array.length_toList]; omega)
  have hall : ∀ a ∈ ns, numAt xs (argBest (fun i j => decide (numAt xs i < numAt xs j)) (xs.size - 1)) ≤ a := fun a ha => by
    rw [hns] at ha
    obtain ⟨j, hj, rfl⟩ := mem_getD ha
    rw [List.length_map, Array.length_toList] at hj
    rw [← numAt_eq]; exact h2 j (by omega)
  obtain ⟨q1, q2⟩ := leastI_spec ns hne
  have := Int.le_antisymm (hall _ q1) (q2 _ hM)
  rw [this]
  exact hQ _ g _ (.grow S hk hle) (.int _)
theorem c_max2 {x y : Int} : CallD p k (.builtin "max") [.int x, .int y] (.int (max x y)) := .mk fun w A g s vs Q E hA S G hT r hQ => by
  obtain ⟨v, u, rfl, r1, r2⟩ := r.two_inv
  rw [Rp.int_iff] at r1 r2
  obtain ⟨t, rfl⟩ := r1
  obtain ⟨z, rfl⟩ := r2
  refine wpAny_with_toks (n := s.toks) (Nat.le_refl _) (max_two_ints hA.1 fun h' tk hk hle => hQ _ g _ (.grow S hk hle) (Rp.int_iff.mpr ?_))
  by_cases h : y > x
  · exact ⟨z, by rw [if_pos h, Int.max_eq_right (Int.le_of_lt h)]⟩
  · exact ⟨t, by rw [if_neg h, Int.max_eq_left (by omega)]⟩
theorem c_min2 {x y : Int} : CallD p k (.builtin "min") [.int x, .int y] (.int (min x y)) := .mk fun w A g s vs Q E hA S G hT r hQ => by
  obtain ⟨v, u, rfl, r1, r2⟩ := r.two_inv
  rw [Rp.int_iff] at r1 r2
  obtain ⟨t, rfl⟩ := r1
  obtain ⟨z, rfl⟩ := r2
  refine wpAny_with_toks (n := s.toks) (Nat.le_refl _) (min_two_ints hA.1 fun h' tk hk hle => hQ _ g _ (.grow S hk hle) (Rp.int_iff.mpr ?_))
  by_cases h : y < x
  · exact ⟨z, by rw [if_pos h, Int.min_eq_right (Int.le_of_lt h)]⟩
  · exact ⟨t, by rw [if_neg h, Int.min_eq_left (by omega)]⟩
noncomputable def maxF (x y z : UInt64) : UInt64 := let m := if Float64.cmp x y == some .lt then y else x; if Float64.cmp m z == some .lt then z else m
noncomputable def minF (x y z : UInt64) : UInt64 := let m := if Float64.cmp y x == some .lt then y else x; if Float64.cmp z m == some .lt then z else m
theorem ltV_ff (a b : UInt64) (t u : Tok) : PySem.Flt.ltV (.float a t) (.float b u) = (Float64.cmp a b == some .lt) := rfl
theorem c_max3 {x y z : UInt64} : CallD p k (.builtin "max") [.flt x, .flt y, .flt z] (.flt (maxF x y z)) := .mk fun w A g s vs Q E hA S G hT r hQ => by
  obtain ⟨v, u, t, rfl, r1, r2, r3⟩ := r.three_inv
  rw [Rp.flt_iff] at r1 r2 r3
  obtain ⟨i, rfl, hi⟩ := r1
  obtain ⟨j, rfl, hj⟩ := r2
  obtain ⟨l, rfl, hl⟩ := r3
  refine wpAny_with_toks (n := s.toks) (Nat.le_refl _) (max_three_num hA.1 (.float _ _) (.float _ _) (.float _ _) fun h' tk hk hle => hQ _ g _ (.grow S hk hle) (Rp.flt_iff.mpr ?_))
  unfold maxF
  simp only [ltV_ff]
  by_cases h1 : (Float64.cmp x y == some Ordering.lt) = true
  · simp only [h1, if_true, ltV_ff]
    by_cases h2 : (Float64.cmp y z == some Ordering.lt) = true
    · exact ⟨l, by simp only [h2, if_true], hl⟩
    · exact ⟨j, by simp only [h2, if_false, Bool.false_eq_true], hj⟩
  · simp only [h1, if_false, ltV_ff, Bool.false_eq_true]
    by_cases h2 : (Float64.cmp x z == some Ordering.lt) = true
    · exact ⟨l, by simp only [h2, if_true], hl⟩
    · exact ⟨i, by simp only [h2, if_false, Bool.false_eq_true], hi⟩
theorem c_min3 {x y z : UInt64} : CallD p k (.builtin "min") [.flt x, .flt y, .flt z] (.flt (minF x y z)) := .mk fun w A g s vs Q E hA S G hT r hQ => by
  obtain ⟨v, u, t, rfl, r1, r2, r3⟩ := r.three_inv
  rw [Rp.flt_iff] at r1 r2 r3
  obtain ⟨i, rfl, hi⟩ := r1
  obtain ⟨j, rfl, hj⟩ := r2
  obtain ⟨l, rfl, hl⟩ := r3
  refine wpAny_with_toks (n := s.toks) (Nat.le_refl _) (min_three_num hA.1 (.float _ _) (.float _ _) (.float _ _) fun h' tk hk hle => hQ _ g _ (.grow S hk hle) (Rp.flt_iff.mpr ?_))
  unfold minF
  simp only [ltV_ff]
  by_cases h1 : (Float64.cmp y x == some Ordering.lt) = true
  · simp only [h1, if_true, ltV_ff]
    by_cases h2 : (Float64.cmp z y == some Ordering.lt) = true
    · exact ⟨l, by simp only [h2, if_true], hl⟩
    · exact ⟨j, by simp only [h2, if_false, Bool.false_eq_true], hj⟩
  · simp only [h1, if_false, ltV_ff, Bool.false_eq_true]
    by_cases h2 : (Float64.cmp z x == some Ordering.lt) = true
    · exact ⟨l, by simp only [h2, if_true], hl⟩
    · exact ⟨i, by simp only [h2, if_false, Bool.false_eq_true], hi⟩
theorem c_abs {x : UInt64} : CallD p k (.builtin "abs") [.flt x] (.flt (Float64.abs x)) := .mk fun w A g s vs Q E hA S G hT r hQ => by
  obtain ⟨v, rfl, r1⟩ := r.one_inv
  rw [Rp.flt_iff] at r1
  obtain ⟨i, rfl, hi⟩ := r1
  exact PySem.Flt.call_abs_float (hQ _ g _ (.tok S (Nat.le_succ _)) (.flt (Nat.pos_iff_ne_zero.mp hT)))
/-- int(x) -/
noncomputable def truncI (x : UInt64) : Int := match Float64.decode x with | .fin sg m e => Float64.truncOf sg m e | _ => 0
theorem c_int {x : UInt64} (hf : Float64.isFinite x = true) : CallD p k (.type "int") [.flt x] (.int (truncI x)) := .mk fun w A g s vs Q E hA S G hT r hQ => by
  obtain ⟨v, rfl, r1⟩ := r.one_inv
  rw [Rp.flt_iff] at r1
  obtain ⟨i, rfl, hi⟩ := r1
  unfold Float64.isFinite at hf
  have : ∃ sg m e, Float64.decode x = .fin sg m e := by
    split at hf
    · rename_i a b c h; exact ⟨_, _, _, h⟩
    · cases hf
  obtain ⟨sg, m, e, hd⟩ := this
  have q : truncI x = Float64.truncOf sg m e := by unfold truncI; rw [hd]
  rw [q] at hQ
  exact call_int_float hd (hQ _ g _ (.tok S (Nat.le_succ _)) (.int _))
theorem c_startswith {x y : Str} : CallD p k (.builtin "str.startswith") [.str x, .str y] (.bool (Txt.startswith x y)) := .mk fun w A g s vs Q E hA S G hT r hQ => by
  obtain ⟨v, u, rfl, r1, r2⟩ := r.two_inv
  rw [Rp.str_iff] at r1 r2
  obtain ⟨t, rfl⟩ := r1
  obtain ⟨z, rfl⟩ := r2
  exact call_gives F.slot_str_startswith (typeIs_str _ _ _) F.entry_str_startswith (F.args_str_startswith_2 _ _) (gives_str_startswith x y t z) (hQ _ g s (.refl S) .bool)
theorem c_endswith {x y : Str} : CallD p k (.builtin "str.endswith") [.str x, .str y] (.bool (Txt.endswith x y)) := .mk fun w A g s vs Q E hA S G hT r hQ => by
  obtain ⟨v, u, rfl, r1, r2⟩ := r.two_inv
  rw [Rp.str_iff] at r1 r2
  obtain ⟨t, rfl⟩ := r1
  obtain ⟨z, rfl⟩ := r2
  exact call_gives F.slot_str_endswith (typeIs_str _ _ _) F.entry_str_endswith (F.args_str_endswith_2 _ _) (gives_str_endswith x y t z) (hQ _ g s (.refl S) .bool)
theorem c_find4 {x y : Str} {i j : Int} : CallD p k (.builtin "str.find") [.str x, .str y, .int i, .int j] (.int (find4 x y i j)) := .mk fun w A g s vs Q E hA S G hT r hQ => by
  rw [RpL] at r
  obtain ⟨v, vs', rfl, r1, r⟩ := r
  obtain ⟨u, a, b, rfl, r2, r3, r4⟩ := r.three_inv
  rw [Rp.str_iff] at r1 r2
  rw [Rp.int_iff] at r3 r4
  obtain ⟨t, rfl⟩ := r1
  obtain ⟨z, rfl⟩ := r2
  obtain ⟨c, rfl⟩ := r3
  obtain ⟨d, rfl⟩ := r4
  exact call_gives F.slot_str_find (typeIs_str _ _ _) F.entry_str_find (F.args_str_find_4 _ _ _ _) (gives_find4 x y i j t z c d) (hQ _ g _ (.tok S (Nat.le_succ _)) (.int _))
theorem strsAre {w : World} {g : PH} : ∀ {ns : List Str} {vs : List Value}, RpL p w g (ns.map D.str) vs → ∃ l, vs = strValues l ∧ l.map (·.1) = ns
  | [], vs, h => by rw [List.map_nil, RpL] at h; subst h; exact ⟨[], rfl, rfl⟩
  | n :: ns, vs, h => by
    rw [List.map_cons, RpL] at h
    obtain ⟨v, vs', rfl, h1, h2⟩ := h
    rw [Rp.str_iff] at h1
    obtain ⟨t, rfl⟩ := h1
    obtain ⟨l, rfl, e⟩ := strsAre h2
    exact ⟨(n, t) :: l, rfl, by simp [e]⟩
theorem rp_strs {w : World} {g : PH} : ∀ (l : List (Str × Tok)), RpL p w g ((l.map (·.1)).map D.str) (strValues l)
  | [] => .nil g
  | (x, t) :: l => .cons (.str t) (rp_strs l)
theorem c_join {x : Str} {ns : List Str} (hok : JoinOk x ns = true) : CallD p k (.builtin "str.join") [.str x, .lst (ns.map D.str)] (.str (Txt.join x ns)) := .mk fun w A g s vs Q E hA S G hT r hQ => by
  obtain ⟨v, u, rfl, r1, r2⟩ := r.two_inv
  rw [Rp.str_iff] at r1
  obtain ⟨t, rfl⟩ := r1
  obtain ⟨a, n, us, rfl, hx, hl, hr, ho⟩ := r2.isL S
  obtain ⟨l, rfl, e⟩ := strsAre hr
  exact wpAny_with_toks (n := s.toks) (Nat.le_refl _) (SC.join hl e hok fun t' k hle => hQ _ g _ (.tok S hle) (.str _))
theorem c_index {ns : List Int} {x : Int} {j : Nat} (hj : j < ns.length) (hx : ns[j] = x) (hno : ∀ m (hm : m < ns.length), m < j → ns[m] ≠ x) (hz : ns.length < 2 ^ 62) : CallD p k (.builtin "list.index") [.lst (ns.map D.int), .int x] (.int j) := .mk fun w A g s vs Q E hA S G hT r hQ => by
  obtain ⟨v, u, rfl, r1, r2⟩ := r.two_inv
  obtain ⟨a, n, us, rfl, hx', hl, hr, ho⟩ := r1.isL S
  rw [Rp.int_iff] at r2
  obtain ⟨t, rfl⟩ := r2
  have hi := intsAre hr
  have hlen := hi.length
  have at_ : ∀ (m : Nat) (hm : m < us.toArray.size), ∃ t, us.toArray[m] = .int (ns[m]'(by simpa [hlen] using hm)) t := fun m hm => by
    have hm' : m < us.length := by simpa using hm
    obtain ⟨t, ht⟩ := hi.get m _ (List.getElem?_eq_getElem (by omega : m < ns.length))
    exact ⟨t, by rw [List.getElem?_eq_getElem hm'] at ht; simpa using ht⟩
  refine call_meets F.slot_list_index ⟨_, ho, rfl⟩ F.entry_list_index (F.args_list_index_2 _ _) (MeetsSeq.list_index a us.toArray n (.int x t) (fun y => eqV y (.int x t)) (fun y hy => ?_) j (by simp [hlen, hj]) (by omega) ?_ fun m hm hmj => ?_) ⟨ho, hQ _ g _ (.tok S (Nat.le_succ _)) (.int _)⟩
  · obtain ⟨m, hm, rfl⟩ := Array.mem_iff_getElem.mp hy
    obtain ⟨t', e⟩ := at_ m hm
    rw [e]; exact MeetsSeq.EqGives.int _ _ _ _
  · obtain ⟨t', e⟩ := at_ j (by simp [hlen, hj])
    rw [e]; simp [eqV, hx]
  · obtain ⟨t', e⟩ := at_ m hm
    rw [e]; simp only [eqV]; rw [beq_eq_false_iff_ne]; exact hno m (by simpa [hlen] using hm) hmj
end
end Mine
end
section
open PySem PySem.Calls PyProof.Rows
set_option maxRecDepth 100000
set_option linter.unusedVariables false
namespace Mine
section
variable {p : Program} {k : Nat} {sc : Scope} {σ : List (Str × D)}
/-- the type that a method is sought in -/
noncomputable def mthTy : D → Option String
  | .lst _ => some "list"
  | .str _ => some "str"
  | _ => none
theorem mthTy_is {w : World} {g : PH} {s : Shared} {d : D} {T : String} {v : Value} (h : mthTy d = some T) (r : Rp p w g d v) (S : Sub g s.heap) : s.TypeIs v T ∧ (∀ a, v = .ref a → ∃ ob, s.heap.get? a = some ob ∧ ob.dict = none) := by
  cases d <;> first | (cases h; done) | skip
  · cases h; rw [Rp.str_iff] at r; obtain ⟨t, rfl⟩ := r; exact ⟨typeIs_str _ _ _, fun a e => nomatch e⟩
  · cases h; obtain ⟨a, n, vs, rfl, _, hl, _, ho⟩ := r.isL S; exact ⟨hl.typeIs, fun b e => by cases e; exact ⟨_, ho, rfl⟩⟩

theorem ev_meth {o : Expr} {name : Str} {ap pos : Pos} {e : Expr} {es : List Expr} {T id : String} {a d : D} {ds : List D} (ho : Ev p k sc σ o a) (hT : mthTy a = some T) (pa : PlainAttrs T) (slot : Slot T name id) (hty : typeOf (.builtin id) = pure (.type "method_descriptor"))
    (hargs : Evs p k sc σ (e :: es) ds) (hc : CallD p k (.builtin id) (a :: ds) d)
    (hbase : ∀ env, attributeBase o name env (eval o env) = eval o env := by intro _; rfl) (he : ∀ env, starEach (e :: es) env = (false, eval e env) :: starEach es env := by intro _; rfl) (hst : ∀ env, (starEach (e :: es) env).any (·.1) = false := by intro _; rfl)
    (hfew : ∀ env, ((backTo pos (starEach (e :: es) env)).all (fun x => !x.1) && (backToKw pos (keywordEach [] env)).all (fun x => x.1.isSome) && decide ((e :: es).length + ([] : List Keyword).length + (if ([] : List Keyword).isEmpty then 0 else 1) < 30)) = true := by intro _; rfl)
    (hline : (ap.endLine == pos.line) = true := by rfl) : Ev p k sc σ (.Call (.Attribute o name ap) (e :: es) [] pos) d := .mk fun w A env g s Q E hA hs O hQ => by
  refine wpAny_Call_method_lateS (hbase env) (hfew env) hline (ho.go w A env g s _ E hA hs O fun v g₁ s₁ x₁ r₁ => ?_)
  obtain ⟨hTi, hdd⟩ := mthTy_is (s := s₁) hT r₁ x₁.sub
  refine ⟨T, id, pa, slot, hty, hTi, hdd, ?_⟩
  refine Calls.callWith_builtin (noStar (hst env)) (wp_args hargs he hA hs (O.step x₁) fun vs g₂ s₂ x₂ r₂ => ?_)
  exact hc.go w A g₂ s₂ (v :: vs) Q E hA x₂.sub (O.gd.mono (x₁.le.trans x₂.le)) (Nat.le_trans O.tok (x₁.trans x₂).tks) (.cons (r₁.mono x₂.le) r₂) fun r g' s' y rr => hQ r g' s' ((x₁.trans x₂).trans y) rr

/-- text.replace('..', '..') -/
theorem ev_replace {o : Expr} {ap pos : Pos} {x y z : Str} {j₁ j₂ : Nat} {p₁ p₂ : Pos} (ho : Ev p k sc σ o (.str x)) (hyz : (y == z) = false) (hb : x.length + (x.length + 1) * z.length ≤ 16777216)
    (hbase : ∀ env, attributeBase o "replace" env (eval o env) = eval o env := by intro _; rfl) (hline : (ap.endLine == pos.line) = true := by rfl) :
    Ev p k sc σ (.Call (.Attribute o "replace" ap) [.Constant (.str y) j₁ p₁, .Constant (.str z) j₂ p₂] [] pos) (.str (Txt.replace x y z)) := .mk fun w A env g s Q E hA hs O hQ => by
  refine wpAny_Call_method_lateS (hbase env) rfl hline (ho.go w A env g s _ E hA hs O fun v g₁ s₁ x₁ r₁ => ?_)
  rw [Rp.str_iff] at r₁
  obtain ⟨t, rfl⟩ := r₁
  refine ⟨"str", _, F.plainAttrs_str, F.slot_str_replace, F.type_str_replace, typeIs_str _ _ _, (fun _ e => nomatch e), ?_⟩
  have hb2 : backTo pos (starEach [.Constant (.str y) j₁ p₁, .Constant (.str z) j₂ p₂] env) = [(false, eval (.Constant (.str y) j₁ p₁) env), (false, eval (.Constant (.str z) j₂ p₂) env)] := rfl
  rw [hb2]
  refine Calls.callWith_builtin rfl (Calls.evalArgs_plain (Calls.spliced_cons (Calls.Constant_str (Calls.spliced_cons (Calls.Constant_str (Calls.spliced_nil ?_))))))
  have htk : 1 ≤ s₁.toks := Nat.le_trans O.tok x₁.tks
  refine wpAny_with_toks (n := s₁.toks) (by show s₁.toks ≤ s₁.toks + 1 + 1; omega) ?_
  refine SC.replace (u := s₁.toks) (v := s₁.toks + 1) (Nat.pos_iff_ne_zero.mp htk) (Nat.succ_ne_zero _) (Nat.ne_of_lt (Nat.lt_succ_self _)) hyz hb fun t' kk hle => ?_
  exact hQ _ g₁ _ (x₁.trans (.tok x₁.sub hle)) (.str _)

/-- how many unlike ones -/
noncomputable def unlike (ns : List Int) : Nat := (firstMet (fun i => ns.getD i 0) ns.length).length
theorem ev_lenset {e : Expr} {p₁ p₂ p₃ p₄ : Pos} {ns : List Int} (he : Ev p k sc σ e (.lst (ns.map D.int))) (hk₁ : sc.names.lookup ("len" : Str) = some .globalImplicit) (hk₂ : sc.names.lookup ("set" : Str) = some .globalImplicit) (hz : ns.length + 1 < scanBound)
    (hst : ∀ env, starEach [e] env = [(false, eval e env)] := by intro _; rfl) :
    Ev p k sc σ (.Call (.Name "len" p₁) [.Call (.Name "set" p₂) [e] [] p₃] [] p₄) (.int (unlike ns)) := .mk fun w A env g s Q E hA hs O hQ => by
  subst hs
  obtain ⟨b, mg, mb, hbb, G⟩ := O.gd
  have kp : ∀ a o, b.get? a = some o → s.heap.get? a = some o := fun a o e => O.sub a o (hbb a o e)
  have h1 : (("len" : Str)) ∈ blts := by decide +kernel
  have h2 : (("set" : Str)) ∈ blts := by decide +kernel
  refine wpAny_Call_Name_kw (Calls.Name_function_global O.kind hk₁ (Calls.loadGlobal_builtin (mg := mg) (mb := mb) (v := .builtin "len") (O.glob ▸ G.glob.keeps kp) (G.miss _ h1) (O.blt ▸ G.blt.keeps kp) ((G.boot _ h1).trans (by decide +kernel)) ?_) (by decide))
  refine Calls.callWith_builtin rfl (Calls.evalArgs_plain (Calls.spliced_cons ?_))
  refine wpAny_Call_Name_kw (Calls.Name_function_global O.kind hk₂ (Calls.loadGlobal_builtin (mg := mg) (mb := mb) (v := .type "set") (O.glob ▸ G.glob.keeps kp) (G.miss _ h2) (O.blt ▸ G.blt.keeps kp) ((G.boot _ h2).trans (by decide +kernel)) ?_) (by decide))
  rw [hst env]
  refine PySem.callWith_type rfl (Calls.evalArgs_plain (Calls.spliced_cons (he.go w A env g s _ E hA rfl O fun v g₁ s₁ x₁ r₁ => Calls.spliced_nil ?_)))
  obtain ⟨a, n, us, rfl, hx, hl, hr, ho⟩ := r₁.isL x₁.sub
  have hi := intsAre hr
  have hlen := hi.length
  refine wpAny_with_toks (n := s₁.toks) (Nat.le_refl _) (PySem.call_set_list (items := us.toArray) (ns := ns) hA.1 hl (by simpa using hi) (by simp [hlen, hz]) fun h' tk hS hk hle => ?_)
  obtain ⟨o, hso, hsx⟩ := hS.objOf
  have hkk : ∀ b o, s₁.heap.get? b = some o → h'.get? b = some o := fun b o e => hk b o (Heap.lt_size e) e
  refine Calls.spliced_nil ?_
  have e1 : us.toArray.size = ns.length := by simp [hlen]
  rw [e1] at hsx
  have x₂ : Stp g₁ g₁ s₁ { s₁ with heap := h', toks := tk } := .grow x₁.sub hkk hle
  obtain ⟨hex, es, ep, t, hd, _, _, hn, hf⟩ := hsx
  have h3 := firstMet_length_le (fun i => ns.getD i 0) ns.length
  have h4 : scanBound = 4096 := rfl
  refine call_len_set (s := { s₁ with heap := h', toks := tk }) hso hex hd hf (by omega) ?_
  rw [hn]
  exact hQ _ g₁ _ (x₁.trans (x₂.trans (.tok x₂.sub (by show tk ≤ tk + 1 + 1; omega)))) (.int _)
end
end Mine
end
section
open PySem PySem.Calls PyProof.Rows
set_option maxRecDepth 100000
set_option linter.unusedVariables false
namespace Mine
/-- what a loop over it takes -/
noncomputable def itemsOf : D → Option (List D)
  | .str x => some (x.cps.toList.map fun c => D.str ⟨#[c]⟩)
  | .lst l => some l
  | .tup l => some l
  | .rng n => some ((List.range n).map fun (i : Nat) => D.int (i : Int))
  | .dct ks _ => some (ks.map D.int)
  | _ => none

theorem walks_mono {p : Program} {w : World} {A : Around} {I : Addr} {fp wr : List Addr} {n : Nat} {P P' : Nat → Value → Prop} {St : Nat → Heap → Prop} (W : Walks p w A I fp wr n P St) (h : ∀ i v, P i v → P' i v) : Walks p w A I fp wr n P' St where
  sub := W.sub
  frame := W.frame
  item := fun i s Q E hi st hQ => W.item i s Q E hi st fun v h' tk hP => hQ v h' tk (h i v hP)
  done := W.done
  self := W.self

/-- it is no datum -/
noncomputable def isIt (o : Obj) : Prop := o.cls ≠ .type "list" ∧ o.cls ≠ .type "tuple" ∧ o.cls ≠ .type "range" ∧ o.cls ≠ .type "dict"
theorem isIt.of {o : Obj} {T : String} (h : o.cls = .type T) (hT : T ≠ "list" ∧ T ≠ "tuple" ∧ T ≠ "range" ∧ T ≠ "dict") : isIt o := by
  unfold isIt; rw [h]; exact ⟨fun e => hT.1 (by injection e), fun e => hT.2.1 (by injection e), fun e => hT.2.2.1 (by injection e), fun e => hT.2.2.2 (by injection e)⟩
section
variable {p : Program} {w : World}
theorem wp_iter {A : Around} {g : PH} {s : Shared} {d : D} {ds : List D} {v : Value} {Q : Value → Shared → Prop} {E : Value → Shared → Prop} (hd : itemsOf d = some ds) (hz : ds.length < 2 ^ 60) (r : Rp p w g d v) (S : Sub g s.heap) (hA : A.handled = none)
    (hQ : ∀ I fp St s₁, s.heap.get? I = none → Stp g g s s₁ → Walks p w A I fp [I] ds.length (fun i u => ∃ e, ds[i]? = some e ∧ ∀ g', Le g g' → Rp p w g' e u) St → St 0 s₁.heap → (∀ b ∈ fp, b = I ∨ ∃ o, g b = some o) → (∀ i h, St i h → ∃ o, h.get? I = some o ∧ isIt o) → Q (.ref I) s₁) :
    wpAny (model p w) A (pyIter v) Q E s := by
  have kp : ∀ ob : Obj, Stp g g s { s with heap := s.heap.push ob } := fun ob => Stp.grow (t := s.toks) S (fun b o e => Heap.get?_push_of_some _ e) (Nat.le_refl _)
  cases d <;> first | (cases hd; done) | skip
  · rename_i x
    simp only [itemsOf, Option.some.injEq] at hd
    subst hd
    rw [Rp.str_iff] at r
    obtain ⟨t, rfl⟩ := r
    have e1 : (x.cps.toList.map fun c => D.str ⟨#[c]⟩).length = x.cps.size := by simp
    rw [e1] at hQ
    have fin : ∀ (i : Nat) (u : Value), SignAt x i u → ∃ e, (x.cps.toList.map fun c => D.str ⟨#[c]⟩)[i]? = some e ∧ ∀ g', Le g g' → Rp p w g' e u := fun i u ⟨c, tk, hc, e⟩ => by
      subst e
      exact ⟨.str ⟨#[c]⟩, by simp [hc], fun g' _ => .str _⟩
    cases ha : x.cps.all (· < 128)
    · refine wpAny_pyIter_wide ha ?_
      exact hQ _ [s.heap.objs.size] _ _ (get?_size _) (kp _) (walks_mono (Walks.strWide hA s.heap.objs.size x t) fin) ⟨_, Heap.get?_push_size _ rfl, rfl, rfl⟩ (fun b hb => .inl (List.mem_singleton.mp hb)) (fun i h hs => let ⟨o, h1, h2, _⟩ := hs; ⟨o, h1, .of h2 (by decide)⟩)
    · refine wpAny_pyIter_ascii ha ?_
      exact hQ _ [s.heap.objs.size] _ _ (get?_size _) (kp _) (walks_mono (Walks.strAscii hA s.heap.objs.size x t) fin) ⟨_, Heap.get?_push_size _ rfl, rfl, rfl⟩ (fun b hb => .inl (List.mem_singleton.mp hb)) (fun i h hs => let ⟨o, h1, h2, _⟩ := hs; ⟨o, h1, .of h2 (by decide)⟩)
  · cases hd
    obtain ⟨a, n, vs, rfl, hx, hl, hr, ho⟩ := r.isL S
    refine wpAny_pyIter_list hl ?_
    have hne : a ≠ s.heap.objs.size := Nat.ne_of_lt (Heap.lt_size ho)
    have W := Walks.list (prog := p) (w := w) (A := A) hA s.heap.objs.size a hne vs.toArray
    have e1 : vs.toArray.size = ds.length := by simp [hr.length]
    rw [e1] at W
    refine hQ _ [s.heap.objs.size, a] _ _ (get?_size _) (kp _) (walks_mono W fun i u hu => ?_) ⟨⟨_, Heap.get?_push_size _ rfl, rfl, rfl⟩, hl.push _⟩ (fun b hb => ?_) (fun i h hs => ?_)
    · obtain ⟨e, he, rr⟩ := hr.getv (by simpa using hu); exact ⟨e, he, fun g' l => rr.mono l⟩
    · rcases List.mem_cons.mp hb with rfl | hb
      · exact .inl rfl
      · rw [List.mem_singleton.mp hb]; exact .inr ⟨_, hx⟩
    · obtain ⟨⟨o, h1, h2, _⟩, _⟩ := hs; exact ⟨o, h1, .of h2 (by decide)⟩
  · cases hd
    obtain ⟨a, vs, rfl, hx, hl, hr, ho⟩ := r.isT S
    refine wpAny_pyIter_tuple hl ?_
    have hne : a ≠ s.heap.objs.size := Nat.ne_of_lt (Heap.lt_size ho)
    have W := Walks.tuple (prog := p) (w := w) (A := A) hA s.heap.objs.size a hne vs.toArray
    have e1 : vs.toArray.size = ds.length := by simp [hr.length]
    rw [e1] at W
    refine hQ _ [s.heap.objs.size, a] _ _ (get?_size _) (kp _) (walks_mono W fun i u hu => ?_) ⟨⟨_, Heap.get?_push_size _ rfl, rfl, rfl⟩, hl.push _⟩ (fun b hb => ?_) (fun i h hs => ?_)
    · obtain ⟨e, he, rr⟩ := hr.getv (by simpa using hu); exact ⟨e, he, fun g' l => rr.mono l⟩
    · rcases List.mem_cons.mp hb with rfl | hb
      · exact .inl rfl
      · rw [List.mem_singleton.mp hb]; exact .inr ⟨_, hx⟩
    · obtain ⟨⟨o, h1, h2, _⟩, _⟩ := hs; exact ⟨o, h1, .of h2 (by decide)⟩
  · rename_i n
    simp only [itemsOf, Option.some.injEq] at hd
    subst hd
    simp only [List.length_map, List.length_range] at hz
    rw [Rp.rng_iff] at r
    obtain ⟨a, t, u, x, rfl, hx⟩ := r
    have hr : IsRange s.heap a 0 n 1 t u x := S _ _ hx
    have hsz : Builtin.Range.rangeSize 0 (n : Int) 1 = n := by rw [rangeSize_one]; split <;> omega
    refine wpAny_pyIter_range hr (small_one (by omega) (by omega) (by omega) (by omega)) ?_
    have W := Walks.range (prog := p) (w := w) (A := A) hA s.heap.objs.size 0 1 n
    have e1 : ((List.range n).map fun (i : Nat) => D.int (i : Int)).length = n := by simp
    rw [e1] at hQ
    refine hQ _ [s.heap.objs.size] (fun i h => IsRangeIter h s.heap.objs.size (0 + (i : Nat) * 1) ((n : Int) - (i : Nat)) 1) _ (get?_size _) (kp _) ?_ ?_ (fun b hb => ?_) (fun i h hs => ⟨_, hs, .of rfl (by decide)⟩)
    · exact { sub := W.sub, frame := W.frame, item := fun i s Q E hi st hQ => W.item i s Q E hi st fun v h' tk hP => hQ v h' tk (by
                obtain ⟨t, rfl⟩ := hP
                exact ⟨.int i, by simp [hi], fun g' _ => Rp.int_iff.mpr ⟨t, by simp⟩⟩), done := W.done, self := W.self }
    · show IsRangeIter _ _ _ _ _
      rw [hsz]
      simpa using Heap.get?_push_size s.heap (o := { cls := .type "range_iterator", data := .fields #[rawInt 0, rawInt n, rawInt 1] }) rfl
    · rw [List.mem_singleton.mp hb]; exact .inl rfl
  · rename_i ks l
    simp only [itemsOf, Option.some.injEq] at hd
    subst hd
    obtain ⟨a, vs, o, rfl, hx, hns, hdo, hk, hr⟩ := r.isD S
    obtain ⟨o', es, ep, ho', hc, hdat, hko, hp, hn⟩ := hdo
    have hDA : s.heap.DictAt (intKind p w) a (ks.zip vs) ep := ⟨o', es, ho', hc, hdat, hko, hp, hn⟩
    refine wpAny_pyIter_dict (by simpa using hns) hDA ?_
    have hne : a ≠ s.heap.objs.size := Nat.ne_of_lt (Heap.lt_size ho')
    have W := Walks.dictKeys (prog := p) (w := w) (knd := intKind p w) (A := A) hA s.heap.objs.size a hne (ks.zip vs) ep
    have e1 : (ks.zip vs).length = (ks.map D.int).length := by simp [hk]
    rw [e1] at W ⊢
    refine hQ _ [s.heap.objs.size, a] _ _ (get?_size _) (kp _) (walks_mono W fun i u hu => ?_) ⟨⟨_, Heap.get?_push_size _ rfl, rfl, rfl⟩, hDA.at' fun o e => Heap.get?_push_of_some _ e⟩ (fun b hb => ?_) (fun i h hs => ?_)
    · obtain ⟨kk, x, hkx, hki⟩ := hu
      have h1 : ks[i]? = some kk := by
        rw [List.getElem?_zip_eq_some] at hkx; exact hkx.1
      have : ∃ t, u = .int kk t := by
        cases u <;> simp [intKind, Value.isInt] at hki
        rename_i j t; exact ⟨t, by rw [hki]⟩
      obtain ⟨t, rfl⟩ := this
      exact ⟨.int kk, by simp [h1], fun g' _ => .int t⟩
    · rcases List.mem_cons.mp hb with rfl | hb
      · exact .inl rfl
      · rw [List.mem_singleton.mp hb]; exact .inr ⟨_, hx⟩
    · obtain ⟨⟨o, h1, h2, _⟩, _⟩ := hs; exact ⟨o, h1, .of h2 (by decide)⟩
end
end Mine
end
section
open PySem PySem.Calls PyProof.Rows
set_option maxRecDepth 100000
set_option linter.unusedVariables false
namespace Mine
noncomputable def relab (scope sc : Scope) : Scope :=
  { scope with names := scope.names.map fun (n, k) => if (k == .free && sc.kind == .function && sc.names.lookup n == some .cell) then (n, .cell) else (n, k) }
theorem relab_eq (scope : Scope) (env : Env) : relabel scope env = relab scope env.scope := rfl
/-- a comprehension's scope, inside sc -/
noncomputable def compOk (scope sc : Scope) (x : Str) : Bool :=
  scope.kind == .function && (scope.names.all fun y => y.2 != .cell && (y.2 != .local || (scope.names.lookup y.1 == some .local && (y.1 == x || y.1 == (".0" : Str)))) && (y.2 != .free || (sc.names.lookup y.1 == some .cell || sc.names.lookup y.1 == some .free)))
    && scope.names.lookup x == some .local && !(x == (".0" : Str))

theorem lookup_relab {sc : Scope} {x : Str} {k : NameKind} : ∀ {names : List (Str × NameKind)}, (names.map fun (n, k) => if (k == NameKind.free && sc.kind == .function && sc.names.lookup n == some .cell) then (n, NameKind.cell) else (n, k)).lookup x = some k →
    ∃ k', names.lookup x = some k' ∧ (k = k' ∨ (k' = .free ∧ k = .cell))
  | [], h => by simp at h
  | (n, k₀) :: r, h => by
    rw [List.map_cons, List.lookup_cons] at h
    rw [List.lookup_cons]
    by_cases q : (k₀ == NameKind.free && sc.kind == .function && sc.names.lookup n == some .cell) = true
    · simp only [q, if_true] at h
      cases e : x == n with
      | true =>
        rw [e] at h; cases h
        simp only [Bool.and_eq_true, beq_iff_eq] at q
        exact ⟨k₀, rfl, .inr ⟨q.1.1, rfl⟩⟩
      | false => rw [e] at h; exact lookup_relab h
    · simp only [q, Bool.false_eq_true, if_false] at h
      cases e : x == n with
      | true => rw [e] at h; cases h; exact ⟨_, rfl, .inl rfl⟩
      | false => rw [e] at h; exact lookup_relab h

theorem closureFor_free {env : Env} : ∀ (names : List (Str × NameKind)) (acc : List (Str × Addr)), (∀ y ∈ names, y.2 = .free → ∃ c, env.cells.lookup y.1 = some c) → (∀ n c, acc.lookup n = some c → env.cells.lookup n = some c) →
    ∃ cl, (forIn names acc fun (x : Str × NameKind) (r : List (Str × Addr)) => (match x with
      | (name, kind) => if kind == NameKind.free then (do let c ← cellOf env name; pure (ForInStep.yield ((name, c) :: r))) else pure (ForInStep.yield r) : Sem (ForInStep (List (Str × Addr))))) = pure cl ∧ (∀ n c, cl.lookup n = some c → env.cells.lookup n = some c) ∧
      (∀ n, (n, NameKind.free) ∈ names ∨ (acc.lookup n).isSome = true → (cl.lookup n).isSome = true)
  | [], acc, _, ha => ⟨acc, rfl, ha, fun n h => h.elim (fun q => by cases q) id⟩
  | (n, k) :: r, acc, hf, ha => by
    by_cases q : (k == NameKind.free) = true
    · obtain ⟨c, hc⟩ := hf _ (.head _) (by simpa using q)
      obtain ⟨cl, h1, h2, h3⟩ := closureFor_free r ((n, c) :: acc) (fun y hy => hf y (.tail _ hy)) (fun m d hm => by
        rw [List.lookup_cons] at hm
        cases e : m == n with
        | true => rw [e] at hm; cases hm; rw [eq_of_beq e]; exact hc
        | false => rw [e] at hm; exact ha m d hm)
      refine ⟨cl, ?_, h2, fun m hm => h3 m ?_⟩
      · rw [List.forIn_cons]
        simp only [q, if_true, cellOf, hc, pure_bind]
        exact h1
      · rw [List.lookup_cons]
        cases e : m == n with
        | true => exact .inr rfl
        | false =>
          rcases hm with hm | hm
          · rcases List.mem_cons.mp hm with hm | hm
            · cases hm; simp at e
            · exact .inl hm
          · exact .inr hm
    · obtain ⟨cl, h1, h2, h3⟩ := closureFor_free r acc (fun y hy => hf y (.tail _ hy)) ha
      refine ⟨cl, ?_, h2, fun m hm => h3 m ?_⟩
      · rw [List.forIn_cons]
        simp only [q, pure_bind]
        exact h1
      · rcases hm with hm | hm
        · rcases List.mem_cons.mp hm with hm | hm
          · cases hm; simp at q
          · exact .inl hm
        · exact .inr hm
theorem closure_ok {scope : Scope} {env : Env} (h : ∀ y ∈ scope.names, y.2 = .free → ∃ c, env.cells.lookup y.1 = some c) :
    ∃ cl, closureFor scope env = pure cl ∧ (∀ n c, cl.lookup n = some c → env.cells.lookup n = some c) ∧ (∀ n, (n, NameKind.free) ∈ scope.names → (cl.lookup n).isSome = true) := by
  obtain ⟨cl, h1, h2, h3⟩ := closureFor_free scope.names [] h (by simp)
  refine ⟨cl, ?_, h2, fun n hn => h3 n (.inl hn)⟩
  simp only [closureFor]
  simp only [bind_pure]
  exact h1

structure CompOk (scope sc : Scope) (x : Str) : Prop where
  kind : scope.kind = .function
  noCell : ∀ y ∈ scope.names, y.2 ≠ .cell
  loc : ∀ y ∈ scope.names, y.2 = .local → scope.names.lookup y.1 = some .local ∧ (y.1 = x ∨ y.1 = ".0")
  free : ∀ y ∈ scope.names, y.2 = .free → sc.names.lookup y.1 = some .cell ∨ sc.names.lookup y.1 = some .free
  var : scope.names.lookup x = some .local
  ne : x ≠ ".0"
theorem compOk.spec {scope sc : Scope} {x : Str} (h : compOk scope sc x = true) : CompOk scope sc x := by
  unfold compOk at h
  simp only [Bool.and_eq_true, beq_iff_eq, List.all_eq_true] at h
  obtain ⟨⟨⟨h1, h2⟩, h3⟩, h4⟩ := h
  refine ⟨h1, fun y hy => by simpa using (h2 y hy).1.1, fun y hy e => ?_, fun y hy e => ?_, h3, by simpa using h4⟩
  · have := (h2 y hy).1.2
    rw [e] at this
    simpa using this
  · have := (h2 y hy).2
    rw [e] at this
    simpa using this

section
variable {p : Program} {k : Nat} {sc : Scope} {σ : List (Str × D)}
theorem comp_env {w : World} {env : Env} {g : PH} {s : Shared} {scope : Scope} {x : Str} {cl : List (Str × Addr)} {C : Addr} {m : Str → Option Value} {v : Value} {e : D} (O : EOk p w env σ g s) (ok : CompOk scope env.scope x)
    (h2 : ∀ n c, cl.lookup n = some c → env.cells.lookup n = some c) (h3 : ∀ n, (n, NameKind.free) ∈ scope.names → (cl.lookup n).isSome = true) (hn : s.heap.Ns C m) (hm : m x = some v) (r : Rp p w g e v) :
    EOk p w (compEnvC scope cl C env) ((x, e) :: σ) g s where
  sub := O.sub
  gd := O.gd
  tok := O.tok
  kind := ok.kind
  glob := O.glob
  blt := O.blt
  lns := ⟨m, hn⟩
  cells := fun n c h => O.cells n c (h2 n c h)
  hasc := fun y hy => by
    have key : ∀ k', (relab scope env.scope).names.lookup y = some k' → (k' = .cell ∨ k' = .free) → (cl.lookup y).isSome = true := fun k' e hk => by
      obtain ⟨k₀, h, q⟩ := lookup_relab e
      have hmem := mem_of_lookup h
      rcases q with rfl | ⟨rfl, _⟩
      · rcases hk with rfl | rfl
        · exact absurd rfl (ok.noCell _ hmem)
        · exact h3 _ hmem
      · exact h3 _ hmem
    rcases hy with hy | hy
    · exact key _ hy (.inl rfl)
    · exact key _ hy (.inr rfl)
  vars := fun y d hl hk => by
    obtain ⟨hne, hk⟩ := hk
    have key : ∀ k', (relab scope env.scope).names.lookup y = some k' → (k' = .local → y = x) ∧ ((k' = .cell ∨ k' = .free) → known env y ∧ (env.kindOf y = some .cell ∨ env.kindOf y = some .free) ∧ (cl.lookup y).isSome = true) := fun k' e => by
      obtain ⟨k₀, h, q⟩ := lookup_relab e
      have hmem := mem_of_lookup h
      have hfr : k₀ = .free → known env y ∧ (env.kindOf y = some .cell ∨ env.kindOf y = some .free) ∧ (cl.lookup y).isSome = true := fun q => by
        subst q
        exact ⟨⟨hne, .inr (ok.free _ hmem rfl)⟩, ok.free _ hmem rfl, h3 _ hmem⟩
      rcases q with rfl | ⟨rfl, rfl⟩
      · refine ⟨fun q => ?_, fun q => ?_⟩
        · subst q
          exact ((ok.loc _ hmem rfl).2).elim id fun q => by rw [beq_eq_false_iff_ne] at hne; exact absurd q hne
        · rcases q with rfl | rfl
          · exact absurd rfl (ok.noCell _ hmem)
          · exact hfr rfl
      · exact ⟨fun q => (nomatch q), fun _ => hfr rfl⟩
    have far : known env y ∧ (env.kindOf y = some .cell ∨ env.kindOf y = some .free) ∧ (cl.lookup y).isSome = true → y ≠ x → ((compEnvC scope cl C env).kindOf y = some .cell ∨ (compEnvC scope cl C env).kindOf y = some .free) → ∃ v, Has (compEnvC scope cl C env) s.heap y v ∧ Rp p w g d v := fun ⟨q1, q2, q3⟩ hyx q4 => by
      rw [List.lookup_cons] at hl
      rw [beq_eq_false_iff_ne.mpr hyx] at hl
      obtain ⟨u, hH, rr⟩ := O.vars y d hl q1
      refine ⟨u, ?_, rr⟩
      obtain ⟨c', hc'⟩ := Option.isSome_iff_exists.mp q3
      rcases hH with ⟨e, _⟩ | ⟨_, c, hc, hv⟩
      · rcases q2 with q2 | q2 <;> rw [e] at q2 <;> cases q2
      · have := h2 y c' hc'
        obtain rfl : c = c' := by rw [hc] at this; exact Option.some.inj this
        exact .inr ⟨q4, c, hc', hv⟩
    have notx : ∀ k', (relab scope env.scope).names.lookup y = some k' → k' ≠ .local → y ≠ x := fun k' e hk q => by
      subst q
      have : (relab scope env.scope).names.lookup y = some .local := lookup_relabel_local ok.var
      rw [this] at e; cases e; exact hk rfl
    rcases hk with hk | hk | hk
    · obtain rfl := (key _ hk).1 rfl
      rw [List.lookup_cons, beq_self_eq_true] at hl
      cases hl
      exact ⟨v, .inl ⟨hk, m, hn, hm⟩, r⟩
    · exact far ((key _ hk).2 (.inl rfl)) (notx _ hk (by decide)) (.inl hk)
    · exact far ((key _ hk).2 (.inr rfl)) (notx _ hk (by decide)) (.inr hk)

/-- a comprehension's tests -/
structure Ets (p : Program) (k : Nat) (sc : Scope) (σ : List (Str × D)) (ifs : List Expr) (b : Bool) : Prop where
  go : ∀ (w : World) (A : Around) (env : Env) (g : PH) (s : Shared) (Q : Bool → Shared → Prop) (E : Value → Shared → Prop), Rm k A → env.scope = sc → EOk p w env σ g s →
    (∀ g' s', Stp g g' s s' → Q b s') → wpAny (model p w) A (forIn ifs true fun c r => if r = true then do let ok ← isTrue c env (eval c env); pure (ForInStep.yield ok) else pure (ForInStep.yield r)) Q E s
theorem ets_nil : Ets p k sc σ [] true := .mk fun w A env g s Q E _ _ O hQ => wpAny_tests_nil (hQ g s (.refl O.sub))
theorem ets_one {c : Expr} {b : Bool} (h : Et p k sc σ c b) : Ets p k sc σ [c] b := .mk fun w A env g s Q E hA hs O hQ => wpAny_tests_one (h.go w A env g s Q E hA hs O hQ)

theorem filter_take {α : Type} (pf : α → Bool) (xs : List α) (i : Nat) (a : α) (h : xs[i]? = some a) : (xs.take (i + 1)).filter pf = (xs.take i).filter pf ++ (if pf a then [a] else []) := take_succ_filter pf xs i a h

theorem wp_compBlock {α : Type} {w : World} {A : Around} {env : Env} {g : PH} {s s₂ : Shared} {elt iter : Expr} {x : Str} {px : Pos} {ifs : List Expr} {scope : Scope} {cl : List (Str × Addr)} {pos : Pos} {xs : List α} {mk f : α → D} {pf : α → Bool}
    {I : Addr} {fp : List Addr} {St : Nat → Heap → Prop} {RR : Value → Addr → Result → Shared → Prop} {E : Value → Shared → Prop}
    (hA : Rm k A) (hs : env.scope = sc) (O : EOk p w env σ g s) (X : Stp g g s s₂) (ok : CompOk scope sc x) (h2 : ∀ n c, cl.lookup n = some c → env.cells.lookup n = some c) (h3 : ∀ n, (n, NameKind.free) ∈ scope.names → (cl.lookup n).isSome = true)
    (hsz : xs.length ≤ sizeLine)
    (W : Walks p w A I fp [I] xs.length (fun i u => ∃ e, (xs.map mk)[i]? = some e ∧ ∀ g', Le g g' → Rp p w g' e u) St) (hst : St 0 s₂.heap) (hI₀ : s.heap.get? I = none) (hfp : ∀ b ∈ fp, b = I ∨ ∃ o, g b = some o) (hit : ∀ i h, St i h → ∃ o, h.get? I = some o ∧ isIt o)
    (ht : ∀ a ∈ xs, Ets p k (relab scope sc) ((x, mk a) :: σ) ifs (pf a)) (he : ∀ a ∈ xs, pf a = true → Ev p k (relab scope sc) ((x, mk a) :: σ) elt (f a))
    (hRR : ∀ D C h' tk m' g', s.heap.get? D = none → s.heap.get? C = none → D ≠ C → g' C = none → h'.Ns C m' → Stp g g' s { s with heap := h', toks := tk } → Rp p w g' (.lst ((xs.filter pf).map f)) (.ref D) → RR (.ref D) C (.ok .next) { s with heap := h', toks := tk }) :
    wpAny (model p w) A (newList []) (fun acc s₃ => wpAny (model p w) A (newFunctionEnv scope env.globals cl [] env.qual none .none (some env)) (fun cenv s₄ =>
      codeAny (model p w) A (.compStart (.ListComp elt [⟨.Name x px, iter, ifs, 0⟩] scope pos) 0 (.ref I) acc { cenv with scope := relabel scope env }) (RR acc cenv.locals) s₄) E s₃) E s₂ := by
  subst hs
  refine wpAny_newObj_type (wpAny_newFunctionEnv ok.noCell (by intro y hy; simp at hy) (fun h₁ hns₁ hsb₁ => ?_) ok.kind)
  dsimp only at hns₁ hsb₁ ⊢
  generalize hH2 : s₂.heap.push { cls := .type "list", dict := none, data := .seq ([] : List Value).toArray } = H2 at hns₁ hsb₁ ⊢
  have hC : H2.objs.size = s₂.heap.objs.size + 1 := by rw [← hH2, Heap.size_push]
  have hDC : s₂.heap.objs.size ≠ H2.objs.size := by rw [hC]; exact Nat.ne_of_lt (Nat.lt_succ_self _)
  have below : ∀ b, b < s₂.heap.objs.size → b ≠ H2.objs.size ∧ b ≠ s₂.heap.objs.size := fun b hb => ⟨by rw [hC]; exact Nat.ne_of_lt (Nat.lt_succ_of_lt hb), Nat.ne_of_lt hb⟩
  have old : ∀ b o, s₂.heap.get? b = some o → h₁.get? b = some o := fun b o e => hsb₁.extBut b o (below b (Heap.lt_size e)).1 (Heap.get?_push_of_some _ (hH2 ▸ Heap.get?_push_of_some _ e))
  have hacc : h₁.PlainList s₂.heap.objs.size #[] := ⟨0, hsb₁.extBut _ _ hDC (Heap.get?_push_of_some _ (hH2 ▸ Heap.get?_push_size _ rfl))⟩
  have hst₁ : St 0 h₁ := W.frame _ _ _ hst fun b _ o e => old b o e
  have fresh : ∀ a, s₂.heap.objs.size ≤ a → s₂.heap.get? a = none := fun a ha => by
    cases e : s₂.heap.get? a with
    | none => rfl
    | some o' => exact absurd (Heap.lt_size e) (Nat.not_lt.mpr ha)
  have hD₂ := fresh _ (Nat.le_refl s₂.heap.objs.size)
  have hC₂ := fresh H2.objs.size (by rw [hC]; exact Nat.le_succ _)
  have hD₀ : s.heap.get? s₂.heap.objs.size = none := none_of_keep X.keep hD₂
  have hC₀ : s.heap.get? H2.objs.size = none := none_of_keep X.keep hC₂
  have gnone : ∀ a, s.heap.get? a = none → g a = none := fun a ha => by
    cases e : g a with
    | none => rfl
    | some o => rw [O.sub a o e] at ha; cases ha
  obtain ⟨oI, hoI, _⟩ := hit _ _ hst
  have hIlt : I < s₂.heap.objs.size := Heap.lt_size hoI
  have hIC : I ≠ H2.objs.size := (below I hIlt).1
  have hID : I ≠ s₂.heap.objs.size := (below I hIlt).2
  have hDf : s₂.heap.objs.size ∉ fp := fun hm => (hfp _ hm).elim (fun q => hID q.symm) fun ⟨o, e⟩ => by rw [gnone _ hD₀] at e; cases e
  have hCf : H2.objs.size ∉ fp := fun hm => (hfp _ hm).elim (fun q => hIC q.symm) fun ⟨o, e⟩ => by rw [gnone _ hC₀] at e; cases e
  obtain ⟨hh, tt, hsame⟩ := X.same
  have loop : ∀ s₃ : Shared, s₃ = { s₂ with heap := h₁, toks := s₂.toks + ([] : List (Str × Value)).length } →
      codeAny (model p w) A (.compLoop (.ListComp elt [⟨.Name x px, iter, ifs, 0⟩] scope pos) 0 (.ref I) (.ref s₂.heap.objs.size) (compEnvC scope cl H2.objs.size env))
        (RR (.ref s₂.heap.objs.size) H2.objs.size) s₃ := by
    rintro s₃ rfl
    refine codeAny_compLoop_tests
      (fun j s' => ∃ h' tk i m' g', ∃ ys : List Value, s' = { s with heap := h', toks := tk } ∧ s.toks ≤ tk ∧ i ≤ xs.length ∧ j = xs.length + 1 - i ∧ St i h' ∧ h'.PlainList s₂.heap.objs.size ys.toArray ∧ h'.Ns H2.objs.size m' ∧
        (∀ b o, s.heap.get? b = some o → h'.get? b = some o) ∧ Le g g' ∧ Sub g' h' ∧ (∀ a o, g' a = some o → g a = some o ∨ s.heap.get? a = none) ∧ g' I = none ∧ g' s₂.heap.objs.size = none ∧ g' H2.objs.size = none ∧
        RpL p w g' (((xs.take i).filter pf).map f) ys ∧ ys.length ≤ i) ?_ (xs.length + 1)
      ⟨h₁, s₂.toks + ([] : List (Str × Value)).length, 0, _, g, [], by rw [hsame], Nat.le_trans X.tks (Nat.le_add_right _ _), Nat.zero_le _, rfl, hst₁, hacc, hns₁, fun b o e => old b o (X.keep b o e), .refl g, fun a o e => old a o (X.keep _ _ (O.sub a o e)), fun a o e => .inl e, gnone _ hI₀, gnone _ hD₀, gnone _ hC₀,
        by simpa using RpL.nil g, Nat.le_refl _⟩
    rintro j s' ⟨h', tk, i, m', g', ys, rfl, htk, hi, rfl, hst', hpl, hn', hk, hle, hsub, hfr, gI, gD, gC, hr, hyl⟩
    by_cases hlt : i < xs.length
    · refine wpAny_with_toks (n := s.toks) htk (W.item i _ _ _ hlt hst' fun v h₂ tk₂ hPv hst₂ hk₂ htk₂ => ?_)
      obtain ⟨e, hev, hre⟩ := hPv
      obtain ⟨a, ha, rfl⟩ : ∃ a, xs[i]? = some a ∧ mk a = e := by
        rw [List.getElem?_map] at hev
        cases q : xs[i]? with
        | none => rw [q] at hev; cases hev
        | some a => rw [q] at hev; exact ⟨a, rfl, Option.some.inj hev⟩
      have hmem : a ∈ xs := List.mem_of_getElem? ha
      refine wpAny_assign_Name (wpAny_storeName_local (lookup_relabel_local ok.var) (hn'.at' fun o e => hk₂ _ o (by simpa using Ne.symm hIC) e) (fun h₃ hn₃ hs₃ => ?_) (by simp [compEnvC, relabel, ok.kind]))
      have up : ∀ b o, b ≠ I → b ≠ H2.objs.size → h'.get? b = some o → h₃.get? b = some o := fun b o q1 q2 e => hs₃.extBut b o q2 (hk₂ b o (by simpa using q1) e)
      have hst₃ : St (i + 1) h₃ := W.frame _ _ _ hst₂ fun b hb o e => hs₃.extBut b o (fun q => hCf (by have q' : b = H2.objs.size := q; rw [← q']; exact hb)) e
      have ne₀ : ∀ b o, s.heap.get? b = some o → b ≠ I ∧ b ≠ H2.objs.size := fun b o e => ⟨(fun q => by rw [q, hI₀] at e; cases e), (fun q => by rw [q, hC₀] at e; cases e)⟩
      have neg : ∀ b o, g' b = some o → b ≠ I ∧ b ≠ H2.objs.size := fun b o e => ⟨(fun q => by rw [q, gI] at e; cases e), (fun q => by rw [q, gC] at e; cases e)⟩
      have O₃ : EOk p w env σ g' { s with heap := h₃, toks := tk₂ + 1 } := O.step ⟨hle, fun b o e => up b o (neg b o e).1 (neg b o e).2 (hsub b o e), hfr, fun b o e => up b o (ne₀ b o e).1 (ne₀ b o e).2 (hk b o e), ⟨_, _, rfl⟩, Nat.le_succ_of_le htk₂⟩
      have C₃ := comp_env (x := x) (v := v) O₃ ok h2 h3 hn₃ (by simp) (hre g' hle)
      have hplD : h₃.PlainList s₂.heap.objs.size ys.toArray := by obtain ⟨n, e⟩ := hpl; exact ⟨n, up _ _ (Ne.symm hID) hDC e⟩
      refine (ht a hmem).go w A _ g' _ _ _ hA (relab_eq scope env) C₃ fun g₄ s₄ x₄ => ?_
      have C₄ := C₃.step x₄
      obtain ⟨oI₃, hoI₃, _⟩ := hit _ _ hst₃
      obtain ⟨nD, hoD₃⟩ := id hplD
      obtain ⟨oC₃, _, _, hoC₃, _⟩ := id hn₃
      have hst₄ : St (i + 1) s₄.heap := W.frame _ _ _ hst₃ fun b _ o e => x₄.keep b o e
      obtain ⟨h₄, tk₄, hs₄⟩ := x₄.same
      have filt := filter_take pf xs i a ha
      cases hp : pf a with
      | false =>
        simp only [Bool.false_eq_true, if_false]
        refine ⟨xs.length + 1 - (i + 1), by omega, s₄.heap, s₄.toks, i + 1, _, g₄, ys, by rw [hs₄], Nat.le_trans (Nat.le_succ_of_le htk₂) x₄.tks, hlt, rfl, hst₄, ⟨nD, x₄.keep _ _ hoD₃⟩, hn₃.keeps x₄.keep,
          fun b o e => x₄.keep b o (up b o (ne₀ b o e).1 (ne₀ b o e).2 (hk b o e)), hle.trans x₄.le, x₄.sub, fun b o e => (x₄.fresh b o e).elim (hfr b o) fun q => .inr ?_, off_step x₄ gI hoI₃, off_step x₄ gD hoD₃, off_step x₄ gC hoC₃, ?_, Nat.le_succ_of_le hyl⟩
        · exact none_of_keep (fun b o e => up b o (ne₀ b o e).1 (ne₀ b o e).2 (hk b o e)) q
        · rw [filt, hp]; simpa using hr.mono x₄.le
      | true =>
        simp only [if_true]
        refine (he a hmem hp).go w A _ g₄ s₄ _ _ hA (relab_eq scope env) C₄ fun y g₅ s₅ x₅ r₅ => ?_
        have xx := x₄.trans x₅
        have hst₅ : St (i + 1) s₅.heap := W.frame _ _ _ hst₃ fun b _ o e => xx.keep b o e
        obtain ⟨h₅, tk₅, hs₅⟩ := xx.same
        refine wpAny_list_append_plain (hsz := by rw [List.size_toArray]; omega) (⟨nD, xx.keep _ _ hoD₃⟩ : s₅.heap.PlainList s₂.heap.objs.size ys.toArray) fun h₆ hpl₆ hs₆ => ?_
        have neD : ∀ b o, s.heap.get? b = some o → b ≠ s₂.heap.objs.size := fun b o e q => by rw [q, hD₀] at e; cases e
        have gD₅ : g₅ s₂.heap.objs.size = none := off_step xx gD hoD₃
        refine ⟨xs.length + 1 - (i + 1), by omega, h₆, s₅.toks, i + 1, _, g₅, ys ++ [y], by rw [hs₅], Nat.le_trans (Nat.le_succ_of_le htk₂) xx.tks, hlt, rfl, W.frame _ _ _ hst₅ fun b hb o e => hs₆.extBut b o (fun q => hDf (q ▸ hb)) e, by simpa using hpl₆,
          (hn₃.keeps xx.keep).sameBut hs₆ (Ne.symm hDC), fun b o e => hs₆.extBut b o (neD b o e) (xx.keep b o (up b o (ne₀ b o e).1 (ne₀ b o e).2 (hk b o e))), hle.trans xx.le, fun b o e => hs₆.extBut b o (fun q => by rw [q, gD₅] at e; cases e) (xx.sub b o e),
          fun b o e => (xx.fresh b o e).elim (hfr b o) fun q => .inr ?_, off_step xx gI hoI₃, gD₅, off_step xx gC hoC₃, ?_, by simpa using hyl⟩
        · exact none_of_keep (fun b o e => up b o (ne₀ b o e).1 (ne₀ b o e).2 (hk b o e)) q
        · rw [filt, hp, List.map_append]
          exact (hr.mono xx.le).snoc r₅
    · obtain rfl : i = xs.length := Nat.le_antisymm hi (Nat.not_lt.mp hlt)
      refine wpAny_with_toks (n := s.toks) htk (W.done _ _ _ hst' fun h₂ tk₂ hk₂ htk₂ => ?_)
      obtain ⟨nD, hoD⟩ := hpl
      have up : ∀ b o, b ≠ I → h'.get? b = some o → h₂.get? b = some o := fun b o q1 e => hk₂ b o (by simpa using q1) e
      have hoD₂ := up _ _ (Ne.symm hID) hoD
      rw [List.take_length] at hr
      have hle₂ := PH.put_le (o := lstO ys nD) gD
      refine hRR _ _ h₂ tk₂ m' (g'.put s₂.heap.objs.size (lstO ys nD)) hD₀ hC₀ hDC ?_ (hn'.at' fun o e => up _ o (Ne.symm hIC) e) ⟨hle.trans hle₂, fun b o e => ?_, fun b o e => ?_, fun b o e => up b o (fun q => by rw [q, hI₀] at e; cases e) (hk b o e), ⟨_, _, rfl⟩, htk₂⟩
        (.lst (PH.put_self _ _ _) (hr.mono hle₂))
      · unfold PH.put; rw [if_neg (Ne.symm hDC)]; exact gC
      · unfold PH.put at e
        split at e
        · rename_i q; subst q; cases e; exact hoD₂
        · exact up b o (fun q => by rw [q, gI] at e; cases e) (hsub b o e)
      · unfold PH.put at e
        split at e
        · rename_i q; subst q; exact .inr hD₀
        · exact hfr b o e
  exact codeAny_compStart_list (loop _ rfl) (W.self 0 _ _ _ hst₁ (loop _ rfl))

theorem comp_names {scope sc : Scope} {x : Str} (ok : CompOk scope sc x) : ∀ y ∈ scope.names, y.2 = .local → scope.names.lookup y.1 = some .local := fun y hy e => (ok.loc y hy e).1
theorem comp_free {w : World} {env : Env} {g : PH} {s : Shared} {scope : Scope} {x : Str} (O : EOk p w env σ g s) (ok : CompOk scope env.scope x) : ∀ y ∈ scope.names, y.2 = .free → ∃ c, env.cells.lookup y.1 = some c := fun y hy e =>
  Option.isSome_iff_exists.mp (O.hasc y.1 (ok.free y hy e))

/-- [f for x in xs if p] -/
theorem ev_comp {α : Type} {elt iter : Expr} {x : Str} {px : Pos} {ifs : List Expr} {scope : Scope} {pos : Pos} {src : D} {xs : List α} {mk f : α → D} {pf : α → Bool} (hi : Ev p k sc σ iter src) (hd : itemsOf src = some (xs.map mk)) (hsz : xs.length ≤ sizeLine)
    (hok : compOk scope sc x = true) (ht : ∀ a ∈ xs, Ets p k (relab scope sc) ((x, mk a) :: σ) ifs (pf a)) (he : ∀ a ∈ xs, pf a = true → Ev p k (relab scope sc) ((x, mk a) :: σ) elt (f a))
    (hf : ∀ env x, foldedSetIterable iter env x = pure x := by intros; rfl) : EvN p k sc σ (.ListComp elt [⟨.Name x px, iter, ifs, 0⟩] scope pos) (.lst ((xs.filter pf).map f)) := .mk fun w A env g s Q E hA hs O hQ => by
  subst hs
  have ok := compOk.spec hok
  obtain ⟨cl, h1, h2, h3⟩ := closure_ok (comp_free O ok)
  rw [eval_ListComp]
  refine wpAny_comprehension_free (use := none) rfl (hf env) h1 ok.kind (comp_names ok) (hi.go w A env g s _ E hA rfl O fun v g₁ s₁ x₁ r₁ => ?_)
  refine wp_iter hd (by rw [List.length_map]; exact Nat.lt_of_le_of_lt hsz (by decide)) r₁ x₁.sub hA.1 fun I fp St s₂ hI X₂ W hst hfp hit => ?_
  rw [List.length_map] at W
  refine wp_compBlock (RR := fun acc C => compPost (model p w) A E none Q acc C) hA rfl (O.step x₁) X₂ ok h2 h3 hsz W hst hI hfp hit ht he ?_
  intro D C h' tk m' g' hD hC hDC gC hn X r
  refine ⟨m', hn, fun h'' hs'' => ?_⟩
  obtain ⟨h₁, t₁, e₁⟩ := x₁.same
  have Y : Stp g g' s { s₁ with heap := h'', toks := tk } := x₁.trans ⟨X.le, fun b o e => hs''.extBut b o (fun q => by rw [q, gC] at e; cases e) (X.sub b o e), X.fresh, fun b o e => hs''.extBut b o (fun q => by rw [q, hC] at e; cases e) (X.keep b o e), ⟨_, _, rfl⟩, X.tks⟩
  exact hQ D g' _ (none_of_keep x₁.keep hD) Y r

/-- a list that is stored ahead of the comprehension's own frame going -/
structure EvU (p : Program) (k : Nat) (sc : Scope) (σ : List (Str × D)) (e : Expr) (d : D) : Prop where
  go : ∀ (w : World) (A : Around) (env : Env) (g : PH) (s : Shared) (u : Value → Sem Unit) (Q : Unit → Shared → Prop) (E : Value → Shared → Prop), Rm k A → env.scope = sc → EOk p w env σ g s →
    (∀ a C g' s', s.heap.get? a = none → s.heap.get? C = none → a ≠ C → g' C = none → (∃ m, s'.heap.Ns C m) → Stp g g' s s' → Rp p w g' d (.ref a) →
      wpAny (model p w) A (u (.ref a)) (fun _ s'' => ∃ m, s''.heap.Ns C m ∧ ∀ h', Heap.SameBut C s''.heap h' → Q () { s'' with heap := h' }) E s') → wpAny (model p w) A (evalThenUse e env u) Q E s
theorem evu_comp {α : Type} {elt iter : Expr} {x : Str} {px : Pos} {ifs : List Expr} {scope : Scope} {pos : Pos} {src : D} {xs : List α} {mk f : α → D} {pf : α → Bool} (hi : Ev p k sc σ iter src) (hd : itemsOf src = some (xs.map mk)) (hsz : xs.length ≤ sizeLine)
    (hok : compOk scope sc x = true) (ht : ∀ a ∈ xs, Ets p k (relab scope sc) ((x, mk a) :: σ) ifs (pf a)) (he : ∀ a ∈ xs, pf a = true → Ev p k (relab scope sc) ((x, mk a) :: σ) elt (f a))
    (hf : ∀ env x, foldedSetIterable iter env x = pure x := by intros; rfl) : EvU p k sc σ (.ListComp elt [⟨.Name x px, iter, ifs, 0⟩] scope pos) (.lst ((xs.filter pf).map f)) := .mk fun w A env g s u Q E hA hs O hQ => by
  subst hs
  have ok := compOk.spec hok
  obtain ⟨cl, h1, h2, h3⟩ := closure_ok (comp_free O ok)
  show wpAny _ A (do let _ ← comprehension (.ListComp elt [⟨.Name x px, iter, ifs, 0⟩] scope pos) scope env _ (newList []) false (eval iter env) (some u)) _ _ s
  refine wpAny_bind (wpAny_mono (wpAny_comprehension_free (use := some u) (Q := fun _ s' => Q () s') rfl (hf env) h1 ok.kind (comp_names ok) (hi.go w A env g s _ E hA rfl O fun v g₁ s₁ x₁ r₁ => ?_)) (fun _ s' hq => wpAny_pure hq) fun _ _ e => e)
  refine wp_iter hd (by rw [List.length_map]; exact Nat.lt_of_le_of_lt hsz (by decide)) r₁ x₁.sub hA.1 fun I fp St s₂ hI X₂ W hst hfp hit => ?_
  rw [List.length_map] at W
  refine wp_compBlock (RR := fun acc C => compPost (model p w) A E (some u) (fun _ s' => Q () s') acc C) hA rfl (O.step x₁) X₂ ok h2 h3 hsz W hst hI hfp hit ht he ?_
  intro D C h' tk m' g' hD hC hDC gC hn X r
  exact hQ D C g' _ (none_of_keep x₁.keep hD) (none_of_keep x₁.keep hC) hDC gC ⟨m', hn⟩ (x₁.trans X) r
theorem EvU.of_eq {e : Expr} {d d' : D} (h : EvU p k sc σ e d) (q : d = d') : EvU p k sc σ e d' := q ▸ h
end
end Mine
end
section
open PySem PySem.Calls PyProof.Rows
set_option maxRecDepth 100000
set_option linter.unusedVariables false
namespace Mine
section
variable {p : Program} {w : World}
/-- a fact that the storing of names does not touch -/
noncomputable def Calm (env : Env) (Z : Heap → Prop) : Prop := ∀ b h h', (b = env.locals ∨ ∃ n, env.cells.lookup n = some b) → Heap.SameBut b h h' → Z h → Z h'
theorem Calm.true {env : Env} : Calm env fun _ => True := fun _ _ _ _ _ _ => trivial

/-- an object apart from all that the frame holds -/
structure Apart (B : Bs) (α : Str → Addr) (env : Env) (ω : List (Str × OC)) (g : PH) (a : Addr) : Prop where
  g : g a = none
  new : B.new a
  loc : a ≠ env.locals
  cell : ∀ n c, env.cells.lookup n = some c → a ≠ c
  own : ∀ y d, ω.lookup y = some d → α y ≠ a
theorem SOk.known {B : Bs} {α : Str → Addr} {env : Env} {σ : List (Str × D)} {ω : List (Str × OC)} {g : PH} {s : Shared} (O : SOk p w B α env σ ω g s) {a : Addr} (ha : s.heap.get? a = none) : Apart B α env ω g a where
  g := by
    cases e : g a with
    | none => rfl
    | some o => rw [O.e.sub a o e] at ha; cases ha
  new := O.old a ha
  loc := fun q => by obtain ⟨m, o, _, _, ho, _⟩ := O.e.lns; rw [← q, ha] at ho; cases ho
  cell := fun n c hc q => by obtain ⟨v, o, ho, _⟩ := O.e.cells n c hc; rw [← q, ha] at ho; cases ho
  own := fun y d hd q => by obtain ⟨_, h2, _⟩ := O.own y d hd; obtain ⟨o, ho⟩ := h2.some; rw [q, ha] at ho; cases ho

/-- x = v, keeping what is calm -/
theorem wp_storeZ {A : Around} {B : Bs} {α : Str → Addr} {env : Env} {σ : List (Str × D)} {ω : List (Str × OC)} {g : PH} {s : Shared} {x : Str} {v : Value} {d : D} {Z : Heap → Prop} {Q : Unit → Shared → Prop} {E : Value → Shared → Prop} (O : SOk p w B α env σ ω g s) (hx : isOwn env.scope x = true) (hw : ω.lookup x = none)
    (r : Rp p w g d v) (hZ : Calm env Z) (hz : Z s.heap) (h : ∀ s', SOk p w B α env ((x, d) :: σ) ω g s' → Z s'.heap → Q () s') : wpAny (model p w) A (storeName env x v) Q E s := by
  unfold isOwn at hx
  split at hx <;> rename_i hk
  · obtain ⟨m, hm⟩ := O.e.lns
    refine wpAny_storeName_local hk hm (fun h' hn hs => ?_) (by rw [O.e.kind]; rfl)
    refine h _ (O.poke O.offL.1 O.offL.2 hs (Nat.le_succ _) ⟨_, hn⟩ (fun n c hc => let ⟨u, hu⟩ := O.e.cells n c hc; ⟨u, hu.sameBut hs (O.offC n c hc).2.2⟩) (fun y d' hl hkn => ?_) fun y c hc => ?_) (hZ _ _ _ (.inl rfl) hs hz)
    · rw [List.lookup_cons] at hl
      cases hb : y == x with
      | true =>
        rw [hb] at hl; cases hl
        have := eq_of_beq hb; subst this
        exact ⟨v, .inl ⟨hk, _, hn, by simp⟩, r⟩
      | false =>
        rw [hb] at hl
        obtain ⟨u, hu, rr⟩ := O.e.vars y d' hl hkn
        exact ⟨u, hu.setL (by simpa using hb) hm hn hs fun n c e => (O.offC n c e).2.2, rr⟩
    · obtain ⟨h1, h2, h3, h4, h5, h6⟩ := O.own y c hc
      have hne : y ≠ x := fun q => by rw [q, hw] at hc; cases hc
      exact ⟨⟨c, hc⟩, h2.at (.refl _) fun o e => (hs.2 _ h5).trans e, h1.setL hne hm hn hs fun n c e => (O.offC n c e).2.2⟩
  · obtain ⟨c, hc⟩ := Option.isSome_iff_exists.mp (O.e.hasc x (.inl hk))
    obtain ⟨v₀, hv₀⟩ := O.e.cells x c hc
    obtain ⟨o1, o2, o3⟩ := O.offC x c hc
    refine wpAny_storeName_cell O.e.kind hk hc hv₀ fun h' hv hs => ?_
    obtain ⟨m, hm⟩ := O.e.lns
    refine h _ (O.poke o1 o2 hs (Nat.le_refl _) ⟨m, hm.sameBut hs (Ne.symm o3)⟩ (fun n c' hc' => ?_) (fun y d' hl hkn => ?_) fun y c' hc' => ?_) (hZ _ _ _ (.inr ⟨x, hc⟩) hs hz)
    · by_cases q : c' = c
      · subst q; exact ⟨_, hv⟩
      · obtain ⟨u, hu⟩ := O.e.cells n c' hc'; exact ⟨u, hu.sameBut hs q⟩
    · rw [List.lookup_cons] at hl
      cases hb : y == x with
      | true =>
        rw [hb] at hl; cases hl
        have := eq_of_beq hb; subst this
        exact ⟨v, .inr ⟨.inl hk, c, hc, hv⟩, r⟩
      | false =>
        rw [hb] at hl
        obtain ⟨u, hu, rr⟩ := O.e.vars y d' hl hkn
        exact ⟨u, hu.setC (by simpa using hb) hc hs o3 O.inj, rr⟩
    · obtain ⟨h1, h2, h3, h4, h5, h6⟩ := O.own y c' hc'
      have hne : y ≠ x := fun q => by rw [q, hw] at hc'; cases hc'
      exact ⟨⟨c', hc'⟩, h2.at (.refl _) fun o e => (hs.2 _ (h6 x c hc)).trans e, h1.setC hne hc hs o3 O.inj⟩
  · cases hx

noncomputable def setA (α : Str → Addr) (x : Str) (a : Addr) : Str → Addr := fun y => if y = x then a else α y
/-- x = a thing that x alone will hold -/
theorem wp_storeOwn {A : Around} {B : Bs} {α : Str → Addr} {env : Env} {σ : List (Str × D)} {ω : List (Str × OC)} {g : PH} {s : Shared} {x : Str} {a : Addr} {c₀ : OC} {Z : Heap → Prop} {Q : Unit → Shared → Prop} {E : Value → Shared → Prop} (O : SOk p w B α env σ ω g s) (hx : isOwn env.scope x = true) (hw : ω.lookup x = none) (hσ : σ.lookup x = none)
    (r : OwnAt p w g s.heap a c₀) (ha : Apart B α env ω g a) (hZ : Calm env Z) (hz : Z s.heap) (h : ∀ s', SOk p w B (setA α x a) env σ ((x, c₀) :: ω) g s' → Z s'.heap → Q () s') : wpAny (model p w) A (storeName env x (.ref a)) Q E s := by
  have fin : ∀ s' b, (b = env.locals ∨ ∃ n, env.cells.lookup n = some b) → Heap.SameBut b s.heap s'.heap → SOk p w B α env σ ω g s' → Has env s'.heap x (.ref a) → SOk p w B (setA α x a) env σ ((x, c₀) :: ω) g s' := fun s' b hb hs O' H => by
    have hab : a ≠ b := by
      rcases hb with rfl | ⟨n, hn⟩
      · exact ha.loc
      · exact ha.cell n b hn
    exact { e := O'.e, same := O'.same, keep := O'.keep, klt := O'.klt, le := O'.le, fresh := O'.fresh, old := O'.old, tks := O'.tks, xs := O'.xs, offL := O'.offL, offC := O'.offC, inj := O'.inj
            own := fun y c hc => by
              rw [List.lookup_cons] at hc
              cases q : y == x with
              | true =>
                rw [q] at hc; cases hc
                obtain rfl := eq_of_beq q
                have e : setA α y a y = a := by simp [setA]
                rw [e]
                exact ⟨H, r.at (.refl _) fun o e => hs.extBut a o hab e, ha.g, ha.new, ha.loc, ha.cell⟩
              | false =>
                rw [q] at hc
                have e : setA α x a y = α y := by simp [setA, beq_eq_false_iff_ne.mp q]
                rw [e]
                exact O'.own y c hc
            apart := fun y z c d hc hd hne => by
              rw [List.lookup_cons] at hc hd
              cases q : y == x with
              | true =>
                obtain rfl := eq_of_beq q
                have q2 : (z == y) = false := beq_eq_false_iff_ne.mpr (Ne.symm hne)
                rw [q2] at hd
                have e1 : setA α y a y = a := by simp [setA]
                have e2 : setA α y a z = α z := by simp [setA, Ne.symm hne]
                rw [e1, e2]; exact Ne.symm (ha.own z d hd)
              | false =>
                rw [q] at hc
                have e1 : setA α x a y = α y := by simp [setA, beq_eq_false_iff_ne.mp q]
                rw [e1]
                cases q2 : z == x with
                | true =>
                  obtain rfl := eq_of_beq q2
                  have e2 : setA α z a z = a := by simp [setA]
                  rw [e2]; exact ha.own y c hc
                | false =>
                  rw [q2] at hd
                  have e2 : setA α x a z = α z := by simp [setA, beq_eq_false_iff_ne.mp q2]
                  rw [e2]; exact O'.apart y z c d hc hd hne }
  unfold isOwn at hx
  split at hx <;> rename_i hk
  · obtain ⟨m, hm⟩ := O.e.lns
    refine wpAny_storeName_local hk hm (fun h' hn hs => ?_) (by rw [O.e.kind]; rfl)
    refine h _ (fin _ _ (.inl rfl) hs (O.poke O.offL.1 O.offL.2 hs (Nat.le_succ _) ⟨_, hn⟩ (fun n c hc => let ⟨u, hu⟩ := O.e.cells n c hc; ⟨u, hu.sameBut hs (O.offC n c hc).2.2⟩) (fun y d' hl hkn => ?_) fun y c hc => ?_) (.inl ⟨hk, _, hn, by simp⟩)) (hZ _ _ _ (.inl rfl) hs hz)
    · obtain ⟨u, hu, rr⟩ := O.e.vars y d' hl hkn
      exact ⟨u, hu.setL (fun q => by rw [q, hσ] at hl; cases hl) hm hn hs fun n c e => (O.offC n c e).2.2, rr⟩
    · obtain ⟨h1, h2, h3, h4, h5, h6⟩ := O.own y c hc
      have hne : y ≠ x := fun q => by rw [q, hw] at hc; cases hc
      exact ⟨⟨c, hc⟩, h2.at (.refl _) fun o e => (hs.2 _ h5).trans e, h1.setL hne hm hn hs fun n c e => (O.offC n c e).2.2⟩
  · obtain ⟨c, hc⟩ := Option.isSome_iff_exists.mp (O.e.hasc x (.inl hk))
    obtain ⟨v₀, hv₀⟩ := O.e.cells x c hc
    obtain ⟨o1, o2, o3⟩ := O.offC x c hc
    refine wpAny_storeName_cell O.e.kind hk hc hv₀ fun h' hv hs => ?_
    obtain ⟨m, hm⟩ := O.e.lns
    refine h _ (fin _ _ (.inr ⟨x, hc⟩) hs (O.poke o1 o2 hs (Nat.le_refl _) ⟨m, hm.sameBut hs (Ne.symm o3)⟩ (fun n c' hc' => ?_) (fun y d' hl hkn => ?_) fun y c' hc' => ?_) (.inr ⟨.inl hk, c, hc, hv⟩)) (hZ _ _ _ (.inr ⟨x, hc⟩) hs hz)
    · by_cases q : c' = c
      · subst q; exact ⟨_, hv⟩
      · obtain ⟨u, hu⟩ := O.e.cells n c' hc'; exact ⟨u, hu.sameBut hs q⟩
    · obtain ⟨u, hu, rr⟩ := O.e.vars y d' hl hkn
      exact ⟨u, hu.setC (fun q => by rw [q, hσ] at hl; cases hl) hc hs o3 O.inj, rr⟩
    · obtain ⟨h1, h2, h3, h4, h5, h6⟩ := O.own y c' hc'
      have hne : y ≠ x := fun q => by rw [q, hw] at hc'; cases hc'
      exact ⟨⟨c', hc'⟩, h2.at (.refl _) fun o e => (hs.2 _ (h6 x c hc)).trans e, h1.setC hne hc hs o3 O.inj⟩
  · cases hx

/-- a thing of nobody's is changed, and others made -/
theorem SOk.dropExt {B : Bs} {α : Str → Addr} {env : Env} {σ : List (Str × D)} {ω : List (Str × OC)} {g : PH} {s : Shared} {b : Addr} {h' : Heap} {tk : Nat} (O : SOk p w B α env σ ω g s) (hb : Apart B α env ω g b) (hs : ∀ c o, c ≠ b → s.heap.get? c = some o → h'.get? c = some o) (ht : s.toks ≤ tk) :
    SOk p w B α env σ ω g { s with heap := h', toks := tk } where
  e := { sub := fun a o e => hs a o (fun q => by rw [q, hb.g] at e; cases e) (O.e.sub a o e), gd := O.e.gd, tok := Nat.le_trans O.e.tok ht, kind := O.e.kind, glob := O.e.glob, blt := O.e.blt, lns := let ⟨m, hm⟩ := O.e.lns; ⟨m, hm.at' fun o e => hs _ o (Ne.symm hb.loc) e⟩,
         cells := fun n c hc => let ⟨v, hv⟩ := O.e.cells n c hc; ⟨v, let ⟨o, ho, r⟩ := hv; ⟨o, hs _ _ (Ne.symm (hb.cell n c hc)) ho, r⟩⟩, hasc := O.e.hasc,
         vars := fun x d hl hk => by
          obtain ⟨v, hH, rr⟩ := O.e.vars x d hl hk
          refine ⟨v, ?_, rr⟩
          rcases hH with ⟨e, m, hm, hv⟩ | ⟨e, c, hc, hv⟩
          · exact .inl ⟨e, m, hm.at' fun o e => hs _ o (Ne.symm hb.loc) e, hv⟩
          · exact .inr ⟨e, c, hc, let ⟨o, ho, r⟩ := hv; ⟨o, hs _ _ (Ne.symm (hb.cell _ c hc)) ho, r⟩⟩ }
  same := by obtain ⟨h, t, e⟩ := O.same; exact ⟨h', tk, by rw [e]⟩
  keep := fun a o e => hs a o (fun q => by have := O.klt a o e; rw [q, hb.new] at this; cases this) (O.keep a o e)
  klt := O.klt
  le := O.le
  fresh := O.fresh
  old := fun a e => by
    by_cases q : a = b
    · rw [q]; exact hb.new
    · refine O.old a ?_
      cases q2 : s.heap.get? a with
      | none => rfl
      | some o => have e' : h'.get? a = none := e; rw [hs a o q q2] at e'; cases e'
  tks := Nat.le_trans O.tks ht
  xs := fun y hy => let ⟨h1, h2, h3⟩ := O.xs y hy; ⟨hs y.1 _ (fun q => h3 (by rw [q]; exact hb.new)) h1, h2, h3⟩
  offL := O.offL
  offC := O.offC
  inj := O.inj
  own := fun x c hc => by
    obtain ⟨h1, h2, h3⟩ := O.own x c hc
    refine ⟨?_, h2.at (.refl _) fun o e => hs _ _ (hb.own x c hc) e, h3⟩
    rcases h1 with ⟨e, m, hm, hv⟩ | ⟨e, c', hc', hv⟩
    · exact .inl ⟨e, m, hm.at' fun o e => hs _ o (Ne.symm hb.loc) e, hv⟩
    · exact .inr ⟨e, c', hc', let ⟨o, ho, r⟩ := hv; ⟨o, hs _ _ (Ne.symm (hb.cell _ c' hc')) ho, r⟩⟩
  apart := O.apart
theorem SOk.drop {B : Bs} {α : Str → Addr} {env : Env} {σ : List (Str × D)} {ω : List (Str × OC)} {g : PH} {s : Shared} {b : Addr} {h' : Heap} (O : SOk p w B α env σ ω g s) (hb : Apart B α env ω g b) (hs : Heap.SameBut b s.heap h') : SOk p w B α env σ ω g { s with heap := h' } :=
  O.dropExt hb (fun c o q e => hs.extBut c o q e) (Nat.le_refl _)

-- unpacking
theorem wp_draw {A : Around} {I : Addr} {fp : List Addr} {n : Nat} {P : Nat → Value → Prop} {St : Nat → Heap → Prop} (W : Walks p w A I fp [I] n P St) {E : Value → Shared → Prop} : ∀ (m i : Nat) (s : Shared) (Q : List Value → Shared → Prop), i + m ≤ n → St i s.heap →
    (∀ vs h' tk, vs.length = m → (∀ j v, vs[j]? = some v → P (i + j) v) → St (i + m) h' → s.toks ≤ tk → (∀ b o, b ≠ I → s.heap.get? b = some o → h'.get? b = some o) → Q vs { s with heap := h', toks := tk }) → wpAny (model p w) A (draw (.ref I) m) Q E s
  | 0, i, s, Q, hi, hst, hQ => by
    show wpAny _ _ (pure []) Q E s
    exact wpAny_pure (hQ [] s.heap s.toks rfl (by simp) hst (Nat.le_refl _) fun _ _ _ e => e)
  | m + 1, i, s, Q, hi, hst, hQ => by
    show wpAny _ _ (pyNext (.ref I) >>= _) Q E s
    refine wpAny_bind (wpAny_with_toks (n := s.toks) (Nat.le_refl _) (W.item i _ _ _ (by omega) hst fun v h₁ tk₁ hP hst₁ hk₁ ht₁ => ?_))
    refine wpAny_bind (wpAny_holding (wp_draw W m (i + 1) _ _ (by omega) hst₁ fun vs h₂ tk₂ hl hPs hst₂ ht₂ hk₂ => wpAny_pure ?_))
    refine hQ (v :: vs) h₂ tk₂ (by simp [hl]) (fun j u hj => ?_) (by rw [show i + (m + 1) = i + 1 + m by omega]; exact hst₂) (Nat.le_trans ht₁ ht₂) fun b o hb e => hk₂ b o hb (hk₁ b o (by simpa using hb) e)
    cases j with
    | zero => simp at hj; subst hj; exact hP
    | succ j => simp at hj; have := hPs j u hj; rwa [show i + 1 + j = i + (j + 1) by omega] at this
theorem wp_unpack {A : Around} {g : PH} {s : Shared} {d : D} {ds : List D} {v : Value} {Q : List Value → Shared → Prop} {E : Value → Shared → Prop} (hd : itemsOf d = some ds) (hl : d = .lst ds ∨ d = .tup ds) (hz : ds.length < 2 ^ 60) (r : Rp p w g d v) (S : Sub g s.heap) (hA : A.handled = none)
    (hQ : ∀ vs s', Stp g g s s' → RpL p w g ds vs → Q vs s') : wpAny (model p w) A (unpackItems v ds.length none) Q E s := by
  have hno : ∃ T id, s.TypeIs v T ∧ typeLookup (.type T) "__iter__" = pure (some (.builtin id)) := by
    rcases hl with rfl | rfl
    · obtain ⟨a, n, vs, rfl, hx, hl, hr, ho⟩ := r.isL S; exact ⟨_, _, hl.typeIs, slot_list_iter.lookup⟩
    · obtain ⟨a, vs, rfl, hx, hl, hr, ho⟩ := r.isT S; exact ⟨_, _, hl.typeIs, slot_tuple_iter.lookup⟩
  obtain ⟨T, id, hT, hlk⟩ := hno
  unfold unpackItems
  refine wpAny_bind ?_
  unfold notIterableAtAll
  refine wpAny_bind (wpAny_specialOf hT hlk ?_)
  refine wpAny_pure ?_
  simp only [Bool.false_eq_true, if_false]
  refine wpAny_bind (wpAny_holding (wp_iter hd hz r S hA fun I fp St s₁ hI X W hst hfp hit => ?_))
  refine wpAny_bind (wpAny_holding (wp_draw W ds.length 0 _ _ (by omega) hst fun vs h₂ tk₂ hl hPs hst₂ ht₂ hk₂ => ?_))
  rw [if_neg (by omega)]
  rw [Nat.zero_add] at hst₂
  refine wpAny_bind (wpAny_holding (wpAny_with_toks (n := s₁.toks) ht₂ (W.done _ _ _ hst₂ fun h₃ tk₃ hk₃ ht₃ => ?_)))
  simp only [Option.isSome_none, Bool.false_eq_true, if_false]
  have gI : g I = none := by
    cases e : g I with
    | none => rfl
    | some o => rw [S I o e] at hI; cases hI
  obtain ⟨hh, tt, rfl⟩ := X.same
  have up : ∀ b o, b ≠ I → ({ s with heap := hh, toks := tt } : Shared).heap.get? b = some o → h₃.get? b = some o := fun b o q e => hk₃ b o (by simpa using q) (hk₂ b o q e)
  refine wpAny_pure (hQ vs _ ⟨.refl g, fun b o e => up b o (fun q => by rw [q, gI] at e; cases e) (X.sub b o e), fun a o e => .inl e, fun b o e => up b o (fun q => by rw [q, hI] at e; cases e) (X.keep b o e), ⟨_, _, rfl⟩, Nat.le_trans X.tks ht₃⟩ ?_)
  · refine RpL.of_get hl fun i d v hd hv => ?_
    obtain ⟨e, he, rr⟩ := hPs i v hv
    rw [Nat.zero_add, hd] at he; cases he
    exact rr g (.refl g)
end
end Mine
end
section
open PySem PySem.Calls PyProof.Rows
set_option maxRecDepth 100000
set_option linter.unusedVariables false
namespace Mine
theorem exact_cls {o : Obj} (h : o.ExactDict) : o.cls = .type "dict" := by
  first | exact h | exact h.1 | exact h.2
open Classical in
noncomputable def PH.del (g : PH) (S : Addr → Prop) : PH := fun b => if S b then none else g b
theorem PH.del_in {g : PH} {S : Addr → Prop} {b : Addr} (h : S b) : (g.del S) b = none := by unfold PH.del; rw [if_pos h]
theorem PH.del_out {g : PH} {S : Addr → Prop} {b : Addr} (h : ¬ S b) : (g.del S) b = g b := by unfold PH.del; rw [if_neg h]
theorem PH.del_of {g : PH} {S : Addr → Prop} {b : Addr} {o : Obj} (h : (g.del S) b = some o) : ¬ S b ∧ g b = some o := by
  by_cases q : S b
  · rw [PH.del_in q] at h; cases h
  · exact ⟨q, by rw [PH.del_out q] at h; exact h⟩

theorem del_none {g : PH} {S : Addr → Prop} {b : Addr} (h : g b = none) : (g.del S) b = none := by
  by_cases q : S b
  · exact PH.del_in q
  · rw [PH.del_out q]; exact h
-- numbers, texts, tuples of such
mutual
noncomputable def flat : D → Bool
  | .none | .bool _ | .int _ | .flt _ | .str _ | .rng _ => true
  | .tup l => flatL l
  | _ => false
noncomputable def flatL : List D → Bool
  | [] => true
  | d :: l => flat d && flatL l
end
theorem flatL_iff : ∀ {l : List D}, flatL l = true ↔ ∀ d ∈ l, flat d = true
  | [] => by simp [flatL]
  | d :: l => by rw [flatL, Bool.and_eq_true, flatL_iff]; simp
theorem flat_tup {l : List D} : flat (.tup l) = true ↔ ∀ d ∈ l, flat d = true := by
  rw [flat, flatL_iff]
section
variable {p : Program} {w : World}
mutual
theorem Rp.detach {g : PH} {S : Addr → Prop} (hS : ∀ a o, S a → g a = some o → isIt o) : ∀ (d : D) (v : Value), Rp p w g d v → Rp p w (g.del S) d v
  | .none, _, x => by simpa [Rp] using x
  | .bool _, _, x => by simpa [Rp] using x
  | .int _, _, x => by simpa [Rp] using x
  | .flt _, _, x => by simpa [Rp] using x
  | .str _, _, x => by simpa [Rp] using x
  | .lst l, _, x => by
    rw [Rp] at x ⊢
    obtain ⟨a, n, vs, e, ho, hl⟩ := x
    exact ⟨a, n, vs, e, by rw [PH.del_out fun q => (hS a _ q ho).1 rfl]; exact ho, RpL.detach hS l _ hl⟩
  | .tup l, _, x => by
    rw [Rp] at x ⊢
    obtain ⟨a, vs, e, ho, hl⟩ := x
    exact ⟨a, vs, e, by rw [PH.del_out fun q => (hS a _ q ho).2.1 rfl]; exact ho, RpL.detach hS l _ hl⟩
  | .rng _, _, x => by
    rw [Rp] at x ⊢
    obtain ⟨a, t, u, y, e, ho⟩ := x
    exact ⟨a, t, u, y, e, by rw [PH.del_out fun q => (hS a _ q ho).2.2.1 rfl]; exact ho⟩
  | .dct _ l, _, x => by
    rw [Rp] at x ⊢
    obtain ⟨a, o, vs, e, ho, hf, hd, hk, hl⟩ := x
    refine ⟨a, o, vs, e, ?_, hf, hd, hk, RpL.detach hS l _ hl⟩
    obtain ⟨es, ep, hc, _⟩ := hd
    rw [PH.del_out fun q => (hS a _ q ho).2.2.2 (exact_cls hc)]; exact ho
  | .tab _, _, x => by
    rw [Rp] at x ⊢
    obtain ⟨a, o, ts, e, ho, hd, hk⟩ := x
    refine ⟨a, o, ts, e, ?_, hd, hk⟩
    obtain ⟨es, ep, hc, _⟩ := hd
    rw [PH.del_out fun q => (hS a _ q ho).2.2.2 (exact_cls hc)]; exact ho
  | .arg _, _, x => by
    rw [Rp] at x ⊢
    obtain ⟨a, o, n, vs, e, ho, hc, hd⟩ := x
    exact ⟨a, o, n, vs, e, by rw [PH.del_out fun q => (hS a _ q ho).1 hc]; exact ho, hc, hd⟩
theorem RpL.detach {g : PH} {S : Addr → Prop} (hS : ∀ a o, S a → g a = some o → isIt o) : ∀ (l : List D) (vs : List Value), RpL p w g l vs → RpL p w (g.del S) l vs
  | [], _, x => by simpa [RpL] using x
  | d :: l, _, x => by
    rw [RpL] at x ⊢
    obtain ⟨v, vs', e, h1, h2⟩ := x
    exact ⟨v, vs', e, Rp.detach hS d v h1, RpL.detach hS l vs' h2⟩
end
mutual
theorem Rp.detachF {g : PH} {S : Addr → Prop} (hS : ∀ a o, S a → g a = some o → o.cls ≠ .type "tuple" ∧ o.cls ≠ .type "range") : ∀ (d : D) (v : Value), flat d = true → Rp p w g d v → Rp p w (g.del S) d v
  | .none, _, _, x => by simpa [Rp] using x
  | .bool _, _, _, x => by simpa [Rp] using x
  | .int _, _, _, x => by simpa [Rp] using x
  | .flt _, _, _, x => by simpa [Rp] using x
  | .str _, _, _, x => by simpa [Rp] using x
  | .lst l, _, f, x => by simp [flat] at f
  | .tup l, _, f, x => by
    rw [Rp] at x ⊢
    obtain ⟨a, vs, e, ho, hl⟩ := x
    exact ⟨a, vs, e, by rw [PH.del_out fun q => (hS a _ q ho).1 rfl]; exact ho, RpL.detachF hS l _ (flat_tup.mp f) hl⟩
  | .rng _, _, _, x => by
    rw [Rp] at x ⊢
    obtain ⟨a, t, u, y, e, ho⟩ := x
    exact ⟨a, t, u, y, e, by rw [PH.del_out fun q => (hS a _ q ho).2 rfl]; exact ho⟩
  | .dct _ l, _, f, x => by simp [flat] at f
  | .tab _, _, f, x => by simp [flat] at f
  | .arg _, _, f, x => by simp [flat] at f
theorem RpL.detachF {g : PH} {S : Addr → Prop} (hS : ∀ a o, S a → g a = some o → o.cls ≠ .type "tuple" ∧ o.cls ≠ .type "range") : ∀ (l : List D) (vs : List Value), (∀ d ∈ l, flat d = true) → RpL p w g l vs → RpL p w (g.del S) l vs
  | [], _, _, x => by simpa [RpL] using x
  | d :: l, _, f, x => by
    rw [RpL] at x ⊢
    obtain ⟨v, vs', e, h1, h2⟩ := x
    exact ⟨v, vs', e, Rp.detachF hS d v (f d (.head _)) h1, RpL.detachF hS l vs' (fun d hd => f d (.tail _ hd)) h2⟩
end

-- what a thing of one's own looks like
noncomputable def OC.d : OC → D
  | .lst l => .lst l
  | .dct ks l => .dct ks l
noncomputable def viewOf (ω : List (Str × OC)) : List (Str × D) := ω.map fun x => (x.1, x.2.d)
theorem lookup_view {σ : List (Str × D)} {x : Str} {d : D} : ∀ {ω : List (Str × OC)}, (viewOf ω ++ σ).lookup x = some d → (∃ c, ω.lookup x = some c ∧ d = c.d) ∨ (ω.lookup x = none ∧ σ.lookup x = some d)
  | [], h => .inr ⟨rfl, h⟩
  | (y, c) :: r, h => by
    show _ ∨ _
    have h' : List.lookup x ((y, c.d) :: (viewOf r ++ σ)) = some d := h
    rw [List.lookup_cons] at h' ⊢
    cases q : x == y with
    | true => rw [q] at h'; cases h'; exact .inl ⟨c, rfl, rfl⟩
    | false => rw [q] at h'; exact lookup_view h'
theorem OwnAt.cls {g : PH} {h : Heap} {a : Addr} {c : OC} {o : Obj} (x : OwnAt p w g h a c) (ho : h.get? a = Option.some o) : o.cls = .type "list" ∨ o.cls = .type "dict" := by
  cases c with
  | lst l => obtain ⟨n, vs, e, _⟩ := x; rw [ho] at e; cases e; exact .inl rfl
  | dct ks l =>
    obtain ⟨vs, hd, _⟩ := x
    obtain ⟨o', e, hd⟩ := Heap.dictOf_iff.mp hd
    rw [ho] at e; cases e
    obtain ⟨es, ep, hc, _⟩ := hd
    exact .inr (exact_cls hc)
theorem OwnAt.rp {g g' : PH} {h : Heap} {a : Addr} {c : OC} (x : OwnAt p w g h a c) (hg : g' a = h.get? a) (hl : Le g g') : Rp p w g' c.d (.ref a) := by
  cases c with
  | lst l => obtain ⟨n, vs, e, r⟩ := x; exact .lst (hg.trans e) (r.mono hl)
  | dct ks l =>
    obtain ⟨vs, hd, hk, r, hm⟩ := x
    obtain ⟨o', e, hd⟩ := Heap.dictOf_iff.mp hd
    exact Rp.dct_iff.mpr ⟨a, o', vs, rfl, hg.trans e, hm, hd, hk, r.mono hl⟩

noncomputable def ownS (α : Str → Addr) (ω : List (Str × OC)) (b : Addr) : Prop := ∃ x c, ω.lookup x = some c ∧ α x = b
open Classical in
noncomputable def gView (g : PH) (α : Str → Addr) (ω : List (Str × OC)) (h : Heap) : PH := fun b => if ownS α ω b then h.get? b else g b
theorem gView_in {g : PH} {α : Str → Addr} {ω : List (Str × OC)} {h : Heap} {b : Addr} (q : ownS α ω b) : gView g α ω h b = h.get? b := by unfold gView; rw [if_pos q]
theorem gView_out {g : PH} {α : Str → Addr} {ω : List (Str × OC)} {h : Heap} {b : Addr} (q : ¬ ownS α ω b) : gView g α ω h b = g b := by unfold gView; rw [if_neg q]
section
variable {B : Bs} {α : Str → Addr} {env : Env} {σ : List (Str × D)} {ω : List (Str × OC)} {g : PH} {s : Shared}
theorem SOk.gle (O : SOk p w B α env σ ω g s) : Le g (gView g α ω s.heap) := fun b o e => by
  rw [gView_out fun ⟨x, c, hx, q⟩ => by obtain ⟨_, _, h3, _⟩ := O.own x c hx; rw [q, e] at h3; cases h3]; exact e
theorem SOk.view (O : SOk p w B α env σ ω g s) : EOk p w env (viewOf ω ++ σ) (gView g α ω s.heap) s where
  sub := fun b o e => by
    by_cases q : ownS α ω b
    · rwa [gView_in q] at e
    · rw [gView_out q] at e; exact O.e.sub b o e
  gd := O.e.gd.mono O.gle
  tok := O.e.tok
  kind := O.e.kind
  glob := O.e.glob
  blt := O.e.blt
  lns := O.e.lns
  cells := O.e.cells
  hasc := O.e.hasc
  vars := fun x d hl hk => by
    rcases lookup_view hl with ⟨c, hc, rfl⟩ | ⟨_, hl⟩
    · obtain ⟨h1, h2, _⟩ := O.own x c hc
      exact ⟨_, h1, h2.rp (gView_in ⟨x, c, hc, rfl⟩) O.gle⟩
    · obtain ⟨v, hv, r⟩ := O.e.vars x d hl hk
      exact ⟨v, hv, r.mono O.gle⟩
theorem SOk.unview (O : SOk p w B α env σ ω g s) {g' : PH} {s' : Shared} (X : Stp (gView g α ω s.heap) g' s s') : Stp g (g'.del (ownS α ω)) s s' where
  le := fun b o e => by
    have : ¬ ownS α ω b := fun ⟨x, c, hx, q⟩ => by obtain ⟨_, _, h3, _⟩ := O.own x c hx; rw [q, e] at h3; cases h3
    rw [PH.del_out this]; exact X.le b o (by rw [gView_out this]; exact e)
  sub := fun b o e => X.sub b o (PH.del_of e).2
  fresh := fun b o e => by
    obtain ⟨h1, h2⟩ := PH.del_of e
    exact (X.fresh b o h2).imp (fun q => by rwa [gView_out h1] at q) id
  keep := X.keep
  same := X.same
  tks := X.tks
theorem SOk.ownObj (O : SOk p w B α env σ ω g s) {g' : PH} {s' : Shared} (X : Stp (gView g α ω s.heap) g' s s') : ∀ a o, ownS α ω a → g' a = some o → o.cls ≠ .type "tuple" ∧ o.cls ≠ .type "range" := fun a o ⟨x, c, hx, q⟩ e => by
  obtain ⟨_, h2, _⟩ := O.own x c hx
  obtain ⟨o', ho⟩ := h2.some
  have := X.keep _ _ ho
  have h3 := X.sub _ _ e
  rw [← q, this] at h3; cases h3
  rcases h2.cls ho with h | h <;> rw [h] <;> decide
end

/-- an expression amid things of one's own -/
structure EvV (p : Program) (k : Nat) (sc : Scope) (σ : List (Str × D)) (ω : List (Str × OC)) (e : Expr) (d : D) : Prop where
  go : ∀ (w : World) (A : Around) (env : Env) (B : Bs) (α : Str → Addr) (g : PH) (s : Shared) (Q : Value → Shared → Prop) (E : Value → Shared → Prop), Rm k A → env.scope = sc → SOk p w B α env σ ω g s →
    (∀ v g' s', Stp g g' s s' → Rp p w g' d v → Q v s') → wpAny (model p w) A (eval e env) Q E s
structure EtV (p : Program) (k : Nat) (sc : Scope) (σ : List (Str × D)) (ω : List (Str × OC)) (e : Expr) (b : Bool) : Prop where
  go : ∀ (w : World) (A : Around) (env : Env) (B : Bs) (α : Str → Addr) (g : PH) (s : Shared) (Q : Bool → Shared → Prop) (E : Value → Shared → Prop), Rm k A → env.scope = sc → SOk p w B α env σ ω g s →
    (∀ g' s', Stp g g' s s' → Q b s') → wpAny (model p w) A (isTrue e env (eval e env)) Q E s
structure EvUV (p : Program) (k : Nat) (sc : Scope) (σ : List (Str × D)) (ω : List (Str × OC)) (e : Expr) (d : D) : Prop where
  go : ∀ (w : World) (A : Around) (env : Env) (B : Bs) (α : Str → Addr) (g : PH) (s : Shared) (u : Value → Sem Unit) (Q : Unit → Shared → Prop) (E : Value → Shared → Prop), Rm k A → env.scope = sc → SOk p w B α env σ ω g s →
    (∀ a C g' s', s.heap.get? a = none → s.heap.get? C = none → a ≠ C → g' C = none → (∃ m, s'.heap.Ns C m) → Stp g g' s s' → Rp p w g' d (.ref a) →
      wpAny (model p w) A (u (.ref a)) (fun _ s'' => ∃ m, s''.heap.Ns C m ∧ ∀ h', Heap.SameBut C s''.heap h' → Q () { s'' with heap := h' }) E s') → wpAny (model p w) A (evalThenUse e env u) Q E s
variable {k : Nat} {sc : Scope} {σ : List (Str × D)} {ω : List (Str × OC)}
theorem Ev.v {e : Expr} {d : D} (h : Ev p k sc σ e d) : EvV p k sc σ ω e d := .mk fun w A env B α g s Q E hA hs O hQ => h.go w A env g s Q E hA hs O.e hQ
theorem Et.v {e : Expr} {b : Bool} (h : Et p k sc σ e b) : EtV p k sc σ ω e b := .mk fun w A env B α g s Q E hA hs O hQ => h.go w A env g s Q E hA hs O.e hQ
theorem EvU.v {e : Expr} {d : D} (h : EvU p k sc σ e d) : EvUV p k sc σ ω e d := .mk fun w A env B α g s u Q E hA hs O hQ => h.go w A env g s u Q E hA hs O.e hQ
theorem et_view {e : Expr} {b : Bool} (h : Et p k sc (viewOf ω ++ σ) e b) : EtV p k sc σ ω e b := .mk fun w A env B α g s Q E hA hs O hQ => h.go w A env _ s Q E hA hs O.view fun g' s' X => hQ _ s' (O.unview X)
theorem ev_view {e : Expr} {d : D} (h : Ev p k sc (viewOf ω ++ σ) e d) (hf : flat d = true) : EvV p k sc σ ω e d := .mk fun w A env B α g s Q E hA hs O hQ => h.go w A env _ s Q E hA hs O.view fun v g' s' X r =>
  hQ v _ s' (O.unview X) (r.detachF (O.ownObj X) d v hf)
theorem unview_list {w : World} {B : Bs} {α : Str → Addr} {env : Env} {g g' : PH} {s s' : Shared} {l : List D} {a : Addr} (O : SOk p w B α env σ ω g s) (X : Stp (gView g α ω s.heap) g' s s') (hf : ∀ d ∈ l, flat d = true) (hn : s.heap.get? a = none) (r : Rp p w g' (.lst l) (.ref a)) : Rp p w (g'.del (ownS α ω)) (.lst l) (.ref a) := by
  rw [Rp.lst_iff] at r
  obtain ⟨a', n, vs, e, hg, hl⟩ := r
  cases e
  refine .lst (n := n) (vs := vs) ?_ (RpL.detachF (O.ownObj X) l vs hf hl)
  have no : ¬ ownS α ω a := fun ⟨x, c, hx, q⟩ => by
    obtain ⟨_, h2, _⟩ := O.own x c hx
    obtain ⟨o', ho⟩ := h2.some
    rw [q, hn] at ho; cases ho
  rw [PH.del_out no]
  exact hg
theorem ev_viewL {e : Expr} {l : List D} (h : EvN p k sc (viewOf ω ++ σ) e (.lst l)) (hf : ∀ d ∈ l, flat d = true) : EvV p k sc σ ω e (.lst l) := .mk fun w A env B α g s Q E hA hs O hQ => h.go w A env _ s Q E hA hs O.view fun a g' s' hn X r =>
  hQ _ _ s' (O.unview X) (unview_list O X hf hn r)
theorem evu_view {e : Expr} {l : List D} (h : EvU p k sc (viewOf ω ++ σ) e (.lst l)) (hf : ∀ d ∈ l, flat d = true) : EvUV p k sc σ ω e (.lst l) := .mk fun w A env B α g s u Q E hA hs O hQ => h.go w A env _ s u Q E hA hs O.view fun a C g' s' hn hC hac gC hm X r =>
  hQ a C _ s' hn hC hac (del_none gC) hm (O.unview X) (unview_list O X hf hn r)

-- statements
variable {P : Out → Prop}
theorem wx_assignV {x : Str} {xp pos : Pos} {e : Expr} {d : D} (h : EvV p k sc σ ω e d) (hx : isOwn sc x = true) (hw : ω.lookup x = none) (hP : P (.nxt ((x, d) :: σ) ω))
    (hsw : ∀ env : Env, env.scope = sc → swapsWith e (some (.Name x xp)) pos.line env = pure false) : Wx p k sc (.Assign [.Name x xp] e pos) σ ω P := .mk fun w A env B α g s Q E hA hs O hQ =>
  wpAny_Assign_Name (h.go w A env B α g s _ E hA hs O fun v g' s' x' r => wp_store (O.step x') (hs ▸ hx) hw r fun s'' O'' => hQ _ _ s'' hP ⟨rfl, α, g', O''⟩) (hsw env hs)
theorem wx_ifV {t : Expr} {a b : List Stmt} {pos : Pos} {c : Bool} (ht : EtV p k sc σ ω t c) (ha : c = true → Ws p k sc a σ ω P) (hb : c = false → Ws p k sc b σ ω P) : Wx p k sc (.If t a b pos) σ ω P := .mk fun w A env B α g s Q E hA hs O hQ => by
  refine wpAny_If (ht.go w A env B α g s _ E hA hs O fun g' s' x => ?_)
  cases c with
  | true => exact (ha rfl).go w A env B α g' s' Q E hA hs (O.step x) hQ
  | false => exact (hb rfl).go w A env B α g' s' Q E hA hs (O.step x) hQ
/-- x = [.. for ..], x a plain local -/
theorem wx_assignU {x : Str} {xp pos : Pos} {e : Expr} {d : D} (h : EvUV p k sc σ ω e d) (hx : isOwn sc x = true) (hw : ω.lookup x = none) (hP : P (.nxt ((x, d) :: σ) ω))
    (hsw : ∀ env : Env, env.scope = sc → env.scope.kind = .function → swapsWith e (some (.Name x xp)) pos.line env = pure true) : Wx p k sc (.Assign [.Name x xp] e pos) σ ω P := .mk fun w A env B α g s Q E hA hs O hQ => by
  rw [exec_Assign_Name_used _ _ _ _ (hsw env hs O.e.kind)]
  refine wpAny_bind (wpAny_standAt (wpAny_bind (h.go w A env B α g s _ (fun _ s2 => wpAny (model p w) A (pure Flow.next) Q E s2) E hA hs O fun a C g' s' hn hC hac gC hm X r => ?_)))
  have ap := O.known hC
  have O' := O.step X
  refine wpAny_assign_Name (wp_storeZ (Z := fun h => ∃ m, h.Ns C m) O' (hs ▸ hx) hw r (fun b h h' hb hsb ⟨m, hm⟩ => ⟨m, hm.sameBut hsb ?_⟩) hm fun s'' O'' ⟨m, hm⟩ => ⟨m, hm, fun h' hsb => ?_⟩)
  · rcases hb with rfl | ⟨n, hn⟩
    · exact ap.loc
    · exact ap.cell n b hn
  · exact wpAny_pure (hQ _ _ _ hP ⟨rfl, α, g', O''.drop ⟨gC, ap.new, ap.loc, ap.cell, fun y d hy => ap.own y d hy⟩ hsb⟩)

/-- an iterator is looked upon as frozen while a body runs -/
theorem SOk.bury {w : World} {B : Bs} {α : Str → Addr} {env : Env} {g : PH} {s : Shared} {I : Addr} {o : Obj} (O : SOk p w B α env σ ω g s) (ap : Apart B α env ω g I) (ho : s.heap.get? I = some o) : SOk p w { B with g₀ := g.put I o } α env σ ω (g.put I o) s := by
  have le := PH.put_le (o := o) ap.g
  have off : ∀ a, g a = none → a ≠ I → (g.put I o) a = none := fun a h q => by unfold PH.put; rw [if_neg q]; exact h
  exact { e := { O.e with
                  sub := fun b o' e => by
                    unfold PH.put at e
                    split at e
                    · rename_i q; subst q; cases e; exact ho
                    · exact O.e.sub b o' e
                  gd := O.e.gd.mono le
                  vars := fun x d hl hk => let ⟨v, hv, r⟩ := O.e.vars x d hl hk; ⟨v, hv, r.mono le⟩ }
          same := O.same, keep := O.keep, klt := O.klt, le := .refl _, fresh := fun a o e => .inl e, old := O.old, tks := O.tks
          xs := fun y hy => let ⟨h1, h2, h3⟩ := O.xs y hy; ⟨h1, off _ h2 fun q => h3 (by rw [q]; exact ap.new), h3⟩
          offL := ⟨off _ O.offL.1 (Ne.symm ap.loc), O.offL.2⟩
          offC := fun n c hc => let ⟨h1, h2⟩ := O.offC n c hc; ⟨off _ h1 (Ne.symm (ap.cell n c hc)), h2⟩
          inj := O.inj
          own := fun x c hc => let ⟨h1, h2, h3, h4⟩ := O.own x c hc; ⟨h1, h2.at le fun _ e => e, off _ h3 (ap.own x c hc), h4⟩
          apart := O.apart }
theorem SOk.unbury {w : World} {B : Bs} {α α' : Str → Addr} {env : Env} {σ' : List (Str × D)} {ω' : List (Str × OC)} {g g' : PH} {s s' : Shared} {I : Addr} {o : Obj} (O : SOk p w B α env σ ω g s) (ap : Apart B α env ω g I) (hi : isIt o) (O' : SOk p w { B with g₀ := g.put I o } α' env σ' ω' g' s') :
    SOk p w B α' env σ' ω' (g'.del (· = I)) s' ∧ Le g (g'.del (· = I)) ∧ Apart B α' env ω' (g'.del (· = I)) I ∧ g' I = some o := by
  have gI : g' I = some o := O'.le I o (PH.put_self _ _ _)
  have hS : ∀ a o', a = I → g' a = some o' → isIt o' := fun a o' q e => by rw [q, gI] at e; cases e; exact hi
  have le : Le g (g'.del (· = I)) := fun b o' e => by
    have : b ≠ I := fun q => by rw [q, ap.g] at e; cases e
    rw [PH.del_out (S := (· = I)) this]; exact O'.le b o' (PH.put_le ap.g b o' e)
  refine ⟨{ e := { O'.e with
                  sub := fun b o' e => O'.e.sub b o' (PH.del_of e).2
                  gd := O.e.gd.mono le
                  vars := fun x d hl hk => let ⟨v, hv, r⟩ := O'.e.vars x d hl hk; ⟨v, hv, r.detach hS⟩ }
            same := O'.same, keep := O'.keep, klt := O'.klt, le := O.le.trans le
            fresh := fun a o' e => by
              obtain ⟨h1, h2⟩ := PH.del_of e
              rcases O'.fresh a o' h2 with q | q
              · have q' : (g.put I o) a = some o' := q
                unfold PH.put at q'
                rw [if_neg h1] at q'
                exact O.fresh a o' q'
              · exact .inr q
            old := O'.old, tks := O'.tks
            xs := fun y hy => let ⟨h1, h2, h3⟩ := O'.xs y hy; ⟨h1, del_none h2, h3⟩
            offL := ⟨del_none O'.offL.1, O'.offL.2⟩
            offC := fun n c hc => let ⟨h1, h2⟩ := O'.offC n c hc; ⟨del_none h1, h2⟩
            inj := O'.inj
            own := fun x c hc => by
              obtain ⟨h1, h2, h3, h4⟩ := O'.own x c hc
              refine ⟨h1, ?_, del_none h3, h4⟩
              cases c with
              | lst l => obtain ⟨n, vs, e, r⟩ := h2; exact ⟨n, vs, e, r.detach hS⟩
              | dct ks l => obtain ⟨vs, hd, hk, r, hm⟩ := h2; exact ⟨vs, hd, hk, r.detach hS, hm⟩
            apart := O'.apart }, le, ⟨PH.del_in rfl, ap.new, ap.loc, ap.cell, fun y d hy q => ?_⟩, gI⟩
  obtain ⟨_, _, h3, _⟩ := O'.own y d hy
  rw [q, gI] at h3; cases h3

theorem wp_forCore {w : World} {A : Around} {env : Env} {B : Bs} {α : Str → Addr} {g₁ : PH} {s₁ : Shared} {v : Value} {Q : Flow → Shared → Prop} {E : Value → Shared → Prop} {x : Str} {xp : Pos} {body : List Stmt} {d : D} {ds : List D} (Inv : Nat → List (Str × D) → List (Str × OC) → Prop) (hA : Rm k A) (hs : env.scope = sc) (O₁ : SOk p w B α env σ ω g₁ s₁) (r₁ : Rp p w g₁ d v)
    (hd : itemsOf d = some ds) (hz : ds.length < 2 ^ 60) (hx : isOwn sc x = true) (h0 : Inv 0 σ ω)
    (hb : ∀ i e σ' ω', ds[i]? = some e → Inv i σ' ω' → ω'.lookup x = none ∧ Ws p k sc body ((x, e) :: σ') ω' (andThen (fun σ'' ω'' => Inv (i + 1) σ'' ω'') P)) (hend : ∀ σ' ω', Inv ds.length σ' ω' → P (.nxt σ' ω'))
    (hQ : ∀ o f s', P o → Matches p w B env o f s' → Q f s') :
    wpAny (model p w) A (pyIter v) (fun it s₂ => codeAny (model p w) A (.forLoop (.Name x xp) it body [] env) (fun r s' => match r with | .ok f => Q f s' | .error e => cameBackBy (model p w) A env E e s') s₂) E s₁ := by
  refine wp_iter hd hz r₁ O₁.e.sub hA.1 fun I fp St s₂ hI X₂ W hst hfp hit => ?_
  have ap₁ := O₁.known hI
  refine codeAny_forLoop_any (fun j s' => ∃ i σ' ω' α' g', i ≤ ds.length ∧ j = ds.length - i ∧ SOk p w B α' env σ' ω' g' s' ∧ Inv i σ' ω' ∧ St i s'.heap ∧ Le g₁ g' ∧ Apart B α' env ω' g' I) ?_ ds.length ⟨0, σ, ω, α, g₁, Nat.zero_le _, rfl, O₁.step X₂, h0, hst, .refl _, ap₁⟩
  rintro j s' ⟨i, σ', ω', α', g', hi, rfl, O', hinv, hst', le', ap⟩
  by_cases hlt : i < ds.length
  · refine wpAny_with_toks (n := s'.toks) (Nat.le_refl _) (W.item i _ _ _ hlt hst' fun u h₂ tk₂ hP hst₂ hk₂ ht₂ => ?_)
    obtain ⟨e, he, hre⟩ := hP
    have O₂ := O'.dropExt ap (fun c o q e => hk₂ c o (by simpa using q) e) ht₂
    obtain ⟨hw', hbody⟩ := hb i e σ' ω' he hinv
    show wpAny _ _ (pure ()) _ _ _
    refine wpAny_pure ?_
    have gfp : ∀ b ∈ fp, b = I ∨ ∃ o, g' b = some o := fun b hb => (hfp b hb).imp id fun ⟨o, e⟩ => ⟨o, le' b o e⟩
    have calm : Calm env (St (i + 1)) := fun b h h' hb hs hst => W.frame _ _ _ hst fun c hc o e => by
      refine hs.extBut c o (fun q => ?_) e
      rcases gfp c hc with q2 | ⟨o', q2⟩
      · rcases hb with hb | ⟨n, hb⟩
        · exact ap.loc (by rw [← q2, q, hb])
        · exact ap.cell n b hb (by rw [← q2, q])
      · rcases hb with hb | ⟨n, hb⟩
        · rw [q, hb, O'.offL.1] at q2; cases q2
        · rw [q, (O'.offC n b hb).1] at q2; cases q2
    refine wpAny_assign_Name (wp_storeZ O₂ (hs ▸ hx) hw' (hre g' le') calm hst₂ fun s₃ O₃ hst₃ => ?_)
    obtain ⟨oI, hoI, hisIt⟩ := hit _ _ hst₃
    have ap₃ : Apart B α' env ω' g' I := ap
    refine hbody.go w A env _ α' _ s₃ _ _ hA hs (O₃.bury ap₃ hoI) fun out f s₄ hout hm => ?_
    have frame : ∀ g'' : PH, Le (g'.put I oI) g'' → Sub g'' s₄.heap → St (i + 1) s₄.heap := fun g'' l S => W.frame _ _ _ hst₃ fun b hb o e => by
      rcases gfp b hb with rfl | ⟨o', q⟩
      · rw [hoI] at e; cases e; exact S _ _ (l _ _ (PH.put_self _ _ _))
      · have := O₃.e.sub b o' q
        rw [e] at this; cases this
        exact S _ _ (l _ _ (PH.put_le ap.g _ _ q))
    cases out with
    | ret d' =>
      obtain ⟨u', g'', rfl, rr, En⟩ := hm
      have gI : g'' I = some oI := En.le I oI (PH.put_self _ _ _)
      have hS : ∀ a o', a = I → g'' a = some o' → isIt o' := fun a o' q e => by rw [q, gI] at e; cases e; exact hisIt
      refine hQ (.ret d') _ s₄ hout ⟨u', g''.del (· = I), rfl, rr.detach hS, ⟨En.same, En.keep, fun b o e => ?_, fun b o e => En.sub b o (PH.del_of e).2, fun a o e => ?_, En.tks, En.there, En.xs⟩⟩
      · have e1 := O'.le b o e
        have : b ≠ I := fun q => by rw [q, ap.g] at e1; cases e1
        rw [PH.del_out (S := (· = I)) this]; exact En.le b o (PH.put_le ap.g b o e1)
      · obtain ⟨h1, h2⟩ := PH.del_of e
        rcases En.fresh a o h2 with q | q
        · have q' : (g'.put I oI) a = some o := q
          unfold PH.put at q'
          rw [if_neg h1] at q'
          exact O'.fresh a o q'
        · exact .inr q
    | nxt σ'' ω'' =>
      obtain ⟨rfl, α'', g'', O₄⟩ := hm
      obtain ⟨O₅, le₅, ap₅, gI⟩ := O₃.unbury ap₃ hisIt O₄
      exact ⟨ds.length - (i + 1), by omega, i + 1, σ'', ω'', α'', _, hlt, rfl, O₅, hout, frame g'' O₄.le O₄.e.sub, le'.trans le₅, ap₅⟩
  · obtain rfl : i = ds.length := Nat.le_antisymm hi (Nat.not_lt.mp hlt)
    refine wpAny_with_toks (n := s'.toks) (Nat.le_refl _) (W.done _ _ _ hst' fun h₂ tk₂ hk₂ ht₂ => ?_)
    refine wpAny_execs_nil ?_
    exact hQ _ _ _ (hend σ' ω' hinv) ⟨rfl, α', g', O'.dropExt ap (fun c o q e => hk₂ c o (by simpa using q) e) ht₂⟩
theorem wx_for {x : Str} {xp pos : Pos} {iter : Expr} {body : List Stmt} {d : D} {ds : List D} (Inv : Nat → List (Str × D) → List (Str × OC) → Prop) (h : EvV p k sc σ ω iter d) (hd : itemsOf d = some ds) (hz : ds.length < 2 ^ 60) (hx : isOwn sc x = true) (h0 : Inv 0 σ ω)
    (hb : ∀ i e σ' ω', ds[i]? = some e → Inv i σ' ω' → ω'.lookup x = none ∧ Ws p k sc body ((x, e) :: σ') ω' (andThen (fun σ'' ω'' => Inv (i + 1) σ'' ω'') P)) (hend : ∀ σ' ω', Inv ds.length σ' ω' → P (.nxt σ' ω'))
    (hf : ∀ env x, foldedSetIterable iter env x = pure x := by intros; rfl) : Wx p k sc (.For (.Name x xp) iter body [] pos) σ ω P := .mk fun w A env B α g s Q E hA hs O hQ => by
  refine wpAny_For (h.go w A env B α g s _ E hA hs O fun v g₁ s₁ X₁ r₁ => ?_) (hf env)
  exact wp_forCore Inv hA hs (O.step X₁) r₁ hd hz hx h0 hb hend hQ
/-- the same, with what is known written out -/
theorem wx_forF {x : Str} {xp pos : Pos} {iter : Expr} {body : List Stmt} {d : D} {ds : List D} (F : Nat → List (Str × D)) (G : Nat → List (Str × OC)) (h : EvV p k sc σ ω iter d) (hd : itemsOf d = some ds) (hz : ds.length < 2 ^ 60) (hx : isOwn sc x = true) (h0 : ∀ q ∈ F 0, σ.lookup q.1 = some q.2) (hω : ω = G 0) (hG : ∀ i, (G i).lookup x = none)
    (hb : ∀ i e, ds[i]? = some e → Ws p k sc body ((x, e) :: F i) (G i) (andThen (fun σ'' ω'' => (∀ q ∈ F (i + 1), σ''.lookup q.1 = some q.2) ∧ ω'' = G (i + 1)) P)) (hend : ∀ σ', (∀ q ∈ F ds.length, σ'.lookup q.1 = some q.2) → P (.nxt σ' (G ds.length)))
    (hf : ∀ env x, foldedSetIterable iter env x = pure x := by intros; rfl) : Wx p k sc (.For (.Name x xp) iter body [] pos) σ ω P :=
  wx_for (fun i σ' ω' => (∀ q ∈ F i, σ'.lookup q.1 = some q.2) ∧ ω' = G i) h hd hz hx ⟨h0, hω⟩ (fun i e σ' ω' he ⟨h1, h2⟩ => by
    subst h2
    refine ⟨hG i, ws_weak (hb i e he) fun y d hy => ?_⟩
    rw [List.lookup_cons] at hy ⊢
    cases q : y == x with
    | true => rw [q] at hy; exact hy
    | false => rw [q] at hy; exact lookup_of_all h1 y d hy) (fun σ' ω' ⟨h1, h2⟩ => by subst h2; exact hend σ' h1) hf
end
end Mine
end
section
open PySem PySem.Calls PyProof.Rows
set_option maxRecDepth 100000
set_option linter.unusedVariables false
namespace Mine
/-- x holds c now -/
noncomputable def updO : List (Str × OC) → Str → OC → List (Str × OC)
  | [], _, _ => []
  | (y, c) :: r, x, c' => if (y == x) = true then (y, c') :: r else (y, c) :: updO r x c'
theorem updO_here {x : Str} {c c' : OC} {r : List (Str × OC)} : updO ((x, c) :: r) x c' = (x, c') :: r := by simp [updO]
theorem updO_there {x y : Str} {c c' : OC} {r : List (Str × OC)} (h : (y == x) = false) : updO ((y, c) :: r) x c' = (y, c) :: updO r x c' := by simp [updO, h]
theorem lookup_updO {x y : Str} {c' : OC} : ∀ {ω : List (Str × OC)}, (updO ω x c').lookup y = if y = x then (ω.lookup x).map (fun _ => c') else ω.lookup y
  | [] => by simp [updO]
  | (z, c) :: r => by
    unfold updO
    by_cases q : (z == x) = true
    · rw [if_pos q]
      obtain rfl := eq_of_beq q
      by_cases e : y = z
      · subst e; simp
      · have : (y == z) = false := beq_eq_false_iff_ne.mpr e
        simp [List.lookup_cons, this, e]
    · rw [if_neg q]
      have q' : ¬ z = x := by simpa using q
      rw [List.lookup_cons, lookup_updO (ω := r)]
      by_cases e : y = z
      · subst e; simp [q']
      · have e' : (y == z) = false := beq_eq_false_iff_ne.mpr e
        rw [e']
        by_cases f : y = x
        · subst f
          have : (y == z) = false := beq_eq_false_iff_ne.mpr (Ne.symm q')
          simp [List.lookup_cons, this]
        · simp [f, List.lookup_cons, e']

section
variable {p : Program} {w : World} {k : Nat} {sc : Scope} {σ : List (Str × D)} {ω : List (Str × OC)} {P : Out → Prop}
theorem Has.sameBut {env : Env} {h h' : Heap} {x : Str} {v : Value} {b : Addr} (H : Has env h x v) (hs : Heap.SameBut b h h') (h1 : env.locals ≠ b) (h2 : ∀ n c, env.cells.lookup n = some c → c ≠ b) : Has env h' x v := by
  rcases H with ⟨e, m, hm, hv⟩ | ⟨e, c, hc, hv⟩
  · exact .inl ⟨e, m, hm.sameBut hs h1, hv⟩
  · exact .inr ⟨e, c, hc, hv.sameBut hs (h2 _ c hc)⟩
theorem SOk.mut {B : Bs} {α : Str → Addr} {env : Env} {g : PH} {s : Shared} {x : Str} {c₀ c' : OC} {h' : Heap} {tk : Nat} (O : SOk p w B α env σ ω g s) (hx : ω.lookup x = some c₀) (hs : Heap.SameBut (α x) s.heap h') (ht : s.toks ≤ tk) (ho : OwnAt p w g h' (α x) c') :
    SOk p w B α env σ (updO ω x c') g { s with heap := h', toks := tk } := by
  obtain ⟨q1, q2, q3, q4, q5, q6⟩ := O.own x c₀ hx
  refine O.poke q3 q4 hs ht (let ⟨m, hm⟩ := O.e.lns; ⟨m, hm.sameBut hs (Ne.symm q5)⟩) (fun n c hc => let ⟨v, hv⟩ := O.e.cells n c hc; ⟨v, hv.sameBut hs (Ne.symm (q6 n c hc))⟩) (fun y d hl hk => ?_) fun y c hc => ?_
  · obtain ⟨v, hH, rr⟩ := O.e.vars y d hl hk
    exact ⟨v, hH.sameBut hs (Ne.symm q5) fun n c hc => Ne.symm (q6 n c hc), rr⟩
  · rw [lookup_updO] at hc
    by_cases e : y = x
    · subst e
      rw [if_pos rfl, hx] at hc
      cases hc
      exact ⟨⟨c₀, hx⟩, ho, q1.sameBut hs (Ne.symm q5) fun n c hc => Ne.symm (q6 n c hc)⟩
    · rw [if_neg e] at hc
      obtain ⟨r1, r2, _⟩ := O.own y c hc
      exact ⟨⟨c, hc⟩, r2.at (.refl _) fun o e' => hs.extBut _ _ (O.apart y x c c₀ hc hx e) e', r1.sameBut hs (Ne.symm q5) fun n c hc => Ne.symm (q6 n c hc)⟩

/-- the name of a thing of one's own -/
theorem wp_ownName {A : Around} {B : Bs} {α : Str → Addr} {env : Env} {g : PH} {s : Shared} {x : Str} {c : OC} {pos : Pos} {Q : Value → Shared → Prop} {E : Value → Shared → Prop} (O : SOk p w B α env σ ω g s) (hx : ω.lookup x = some c) (hv : isVar env.scope x = true) (h : Q (.ref (α x)) s) :
    wpAny (model p w) A (eval (.Name x pos) env) Q E s := by
  obtain ⟨h1, h2, h3⟩ := isVar.spec hv
  obtain ⟨H, _⟩ := O.own x c hx
  exact wpAny_Name (wp_has O.e.kind H h h2) h3
theorem SOk.lst {B : Bs} {α : Str → Addr} {env : Env} {g : PH} {s : Shared} {x : Str} {l : List D} (O : SOk p w B α env σ ω g s) (hx : ω.lookup x = some (.lst l)) : ∃ n vs, s.heap.get? (α x) = some (lstO vs n) ∧ RpL p w g l vs := (O.own x _ hx).2.1

-- o.append(e)
theorem wx_append {o : Str} {np ap pos epos : Pos} {e : Expr} {l : List D} {d : D} (ho : ω.lookup o = some (.lst l)) (hv : isVar sc o = true) (he : EvV p k sc σ ω e d) (hsz : l.length ≤ sizeLine) (hP : P (.nxt σ (updO ω o (.lst (l ++ [d])))))
    (hi : ∀ env : Env, env.scope = sc → env.scope.kind = .function → interactive env = false) (hst : ∀ env, starEach [e] env = [(false, eval e env)] := by intro _; rfl) (hline : (ap.endLine == pos.line) = true := by rfl)
    (hsw : ∀ env : Env, swapsWith (.Call (.Attribute (.Name o np) "append" ap) [e] [] pos) none epos.line env = pure false := by intro _; rfl) :
    Wx p k sc (.Expr (.Call (.Attribute (.Name o np) "append" ap) [e] [] pos) epos) σ ω P := .mk fun w A env B α g s Q E hA hs O hQ => by
  refine wpAny_Expr ?_ (hi env hs O.e.kind) (hsw env)
  refine Call_method1 rfl (hst env) hline (wp_ownName O ho (hs ▸ hv) ?_)
  obtain ⟨n, vs, hob, hr⟩ := O.lst ho
  refine ⟨"list", _, F.plainAttrs_list, slot_list_append, F.type_list_append, ⟨_, hob, rfl⟩, (fun a e => by cases e; exact ⟨_, hob, rfl⟩), ?_⟩
  refine Calls.callWith_builtin rfl (Calls.evalArgs_plain (Calls.spliced_cons (he.go w A env B α g s _ E hA hs O fun v g₁ s₁ x₁ r₁ => Calls.spliced_nil ?_)))
  have O₁ := O.step x₁
  obtain ⟨n, vs, hob, hr⟩ := O₁.lst ho
  refine wpAny_list_append_plain (hsz := by rw [List.size_toArray, hr.length]; exact hsz) (⟨n, hob⟩ : s₁.heap.PlainList (α o) vs.toArray) fun h' ⟨n', hp⟩ hsb => ?_
  exact hQ _ _ _ hP ⟨rfl, α, g₁, O₁.mut (tk := s₁.toks) ho hsb (Nat.le_refl _) ⟨n', vs ++ [v], by simpa using hp, hr.snoc r₁⟩⟩

/-- a method of a list of one's own, as a statement -/
theorem wx_remove {o : Str} {np ap pos epos : Pos} {e : Expr} {ns : List Int} {x : Int} {j : Nat} (ho : ω.lookup o = some (.lst (ns.map D.int))) (hv : isVar sc o = true) (he : EvV p k sc σ ω e (.int x)) (hsz : ns.length ≤ sizeLine) (hj : ns[j]? = some x) (hno : ∀ m y, ns[m]? = some y → m < j → y ≠ x) (hP : P (.nxt σ (updO ω o (.lst ((ns.eraseIdx j).map D.int)))))
    (hi : ∀ env : Env, env.scope = sc → env.scope.kind = .function → interactive env = false) (hst : ∀ env, starEach [e] env = [(false, eval e env)] := by intro _; rfl) (hline : (ap.endLine == pos.line) = true := by rfl)
    (hsw : ∀ env : Env, swapsWith (.Call (.Attribute (.Name o np) "remove" ap) [e] [] pos) none epos.line env = pure false := by intro _; rfl) :
    Wx p k sc (.Expr (.Call (.Attribute (.Name o np) "remove" ap) [e] [] pos) epos) σ ω P := .mk fun w A env B α g s Q E hA hs O hQ => by
  refine wpAny_Expr ?_ (hi env hs O.e.kind) (hsw env)
  refine Call_method1 rfl (hst env) hline (wp_ownName O ho (hs ▸ hv) ?_)
  obtain ⟨n, vs, hob, hr⟩ := O.lst ho
  refine ⟨"list", _, F.plainAttrs_list, F.slot_list_remove, F.type_list_remove, ⟨_, hob, rfl⟩, (fun a e => by cases e; exact ⟨_, hob, rfl⟩), ?_⟩
  refine Calls.callWith_builtin rfl (Calls.evalArgs_plain (Calls.spliced_cons (he.go w A env B α g s _ E hA hs O fun v g₁ s₁ x₁ r₁ => Calls.spliced_nil ?_)))
  have O₁ := O.step x₁
  obtain ⟨n, vs, hob, hr⟩ := O₁.lst ho
  rw [Rp.int_iff] at r₁
  obtain ⟨t, rfl⟩ := r₁
  have hI := intsAre hr
  have hlen := hI.length
  have at_ : ∀ (m : Nat) (hm : m < vs.toArray.size), ∃ t, vs.toArray[m] = .int (ns[m]'(by simpa [hlen] using hm)) t := fun m hm => by
    have hm' : m < vs.length := by simpa using hm
    obtain ⟨t, ht⟩ := hI.get m _ (List.getElem?_eq_getElem (by omega : m < ns.length))
    exact ⟨t, by rw [List.getElem?_eq_getElem hm'] at ht; simpa using ht⟩
  obtain ⟨hjl, hjx⟩ := List.getElem?_eq_some_iff.mp hj
  refine call_meets F.slot_list_remove ⟨_, hob, rfl⟩ F.entry_list_remove (F.args_list_remove_2 _ _) (MeetsSeq.list_remove (α o) vs.toArray n (.int x t) (fun y => eqV y (.int x t)) (fun y hy => ?_) j (by simp [hlen, hjl]) ?_ (fun m hm hmj => ?_) (by rw [List.size_toArray, hr.length, List.length_map]; exact hsz)) ⟨hob, ?_⟩
  · obtain ⟨m, hm, rfl⟩ := Array.mem_iff_getElem.mp hy
    obtain ⟨t', e⟩ := at_ m hm
    rw [e]; exact MeetsSeq.EqGives.int _ _ _ _
  · obtain ⟨t', e⟩ := at_ j (by simp [hlen, hjl])
    rw [e]; simp [eqV, hjx]
  · obtain ⟨t', e⟩ := at_ m hm
    rw [e]
    have hm2 : m < ns.length := by simpa [hlen] using hm
    have := hno m ns[m] (List.getElem?_eq_getElem hm2) hmj
    simp [eqV, this]
  · have up := IsL.update (l := α o) (items := vs.toArray) (n := n) hob fun xs => xs.eraseIdxIfInBounds j
    have e1 : (vs.toArray.eraseIdxIfInBounds j) = (vs.eraseIdx j).toArray := by
      rw [Array.eraseIdxIfInBounds, dif_pos (by simp [hlen, hjl])]
      simp
    rw [e1] at up
    refine hQ _ _ _ hP ⟨rfl, α, g₁, O₁.mut (tk := s₁.toks) ho (Heap.SameBut.update ..) (Nat.le_refl _) ⟨_, vs.eraseIdx j, up, ?_⟩⟩
    refine RpL.of_get (by simp [List.length_eraseIdx, hlen]) fun i d v hd hv' => ?_
    rw [List.getElem?_map, List.getElem?_eraseIdx] at hd
    rw [List.getElem?_eraseIdx] at hv'
    by_cases q : i < j
    · rw [if_pos q] at hd hv'
      cases z : ns[i]? with
      | none => rw [z] at hd; cases hd
      | some y =>
        rw [z] at hd; cases hd
        obtain ⟨u, hu, rr⟩ := hr.get (by rw [List.getElem?_map, z]; rfl : (ns.map D.int)[i]? = some (.int y))
        rw [hu] at hv'; cases hv'; exact rr
    · rw [if_neg q] at hd hv'
      cases z : ns[i + 1]? with
      | none => rw [z] at hd; cases hd
      | some y =>
        rw [z] at hd; cases hd
        obtain ⟨u, hu, rr⟩ := hr.get (by rw [List.getElem?_map, z]; rfl : (ns.map D.int)[i + 1]? = some (.int y))
        rw [hu] at hv'; cases hv'; exact rr

-- o[i] = e
theorem wx_setL {o : Str} {np sp pos : Pos} {ei e : Expr} {l : List D} {i : Int} {d : D} (ho : ω.lookup o = some (.lst l)) (hv : isVar sc o = true) (he : EvV p k sc σ ω e d) (hi : EvV p k sc σ ω ei (.int i)) (h0 : 0 ≤ i) (h1 : i < l.length) (hsz : l.length < 2 ^ 62) (hP : P (.nxt σ (updO ω o (.lst (l.set i.toNat d)))))
    (hsw : ∀ env : Env, env.scope = sc → swapsWith e (some (.Subscript (.Name o np) ei sp)) pos.line env = pure false) : Wx p k sc (.Assign [.Subscript (.Name o np) ei sp] e pos) σ ω P := .mk fun w A env B α g s Q E hA hs O hQ => by
  refine wpAny_Assign_Subscript (he.go w A env B α g s _ E hA hs O fun v g₁ s₁ x₁ r₁ => ?_) (hsw env hs)
  have O₁ := O.step x₁
  refine wp_ownName O₁ ho (hs ▸ hv) ?_
  refine hi.go w A env B α g₁ s₁ _ E hA hs O₁ fun u g₂ s₂ x₂ r₂ => ?_
  have O₂ := O₁.step x₂
  rw [Rp.int_iff] at r₂
  obtain ⟨t, rfl⟩ := r₂
  obtain ⟨n, vs, hob, hr⟩ := O₂.lst ho
  have hlen := hr.length
  refine PySem.W.ki_setAt (n := n) (items := vs.toArray) hob h0 (by omega) (by rw [List.size_toArray]; omega) ?_
  have up := IsL.update (l := α o) (items := vs.toArray) (n := n) hob fun xs => xs.setIfInBounds i.toNat v
  have e1 : (vs.toArray.setIfInBounds i.toNat v) = (vs.set i.toNat v).toArray := by simp
  rw [e1] at up
  refine hQ _ _ _ hP ⟨rfl, α, g₂, O₂.mut (tk := s₂.toks) ho (Heap.SameBut.update ..) (Nat.le_refl _) ⟨_, vs.set i.toNat v, up, ?_⟩⟩
  refine RpL.of_get (by simp [hlen]) fun j d' v' hd hv' => ?_
  rw [List.getElem?_set] at hd hv'
  by_cases q : i.toNat = j
  · rw [if_pos q] at hd hv'
    by_cases z : j < l.length
    · rw [if_pos (by omega)] at hd
      rw [if_pos (by omega)] at hv'
      cases hd; cases hv'
      exact r₁.mono x₂.le
    · rw [if_neg (by omega)] at hd; cases hd
  · rw [if_neg q] at hd hv'
    obtain ⟨u, hu, rr⟩ := hr.get hd
    rw [hu] at hv'; cases hv'; exact rr

-- o[i] = e, o a dict, i new to it
theorem wx_setD {o : Str} {np sp pos : Pos} {ei e : Expr} {ks : List Int} {l : List D} {i : Int} {d : D} (ho : ω.lookup o = some (.dct ks l)) (hv : isVar sc o = true) (he : EvV p k sc σ ω e d) (hi : EvV p k sc σ ω ei (.int i)) (hnew : i ∉ ks) (hsz : ks.length ≤ sizeLine) (hP : P (.nxt σ (updO ω o (.dct (ks ++ [i]) (l ++ [d])))))
    (hsw : ∀ env : Env, env.scope = sc → swapsWith e (some (.Subscript (.Name o np) ei sp)) pos.line env = pure false) : Wx p k sc (.Assign [.Subscript (.Name o np) ei sp] e pos) σ ω P := .mk fun w A env B α g s Q E hA hs O hQ => by
  refine wpAny_Assign_Subscript (he.go w A env B α g s _ E hA hs O fun v g₁ s₁ x₁ r₁ => ?_) (hsw env hs)
  have O₁ := O.step x₁
  refine wp_ownName O₁ ho (hs ▸ hv) ?_
  refine hi.go w A env B α g₁ s₁ _ E hA hs O₁ fun u g₂ s₂ x₂ r₂ => ?_
  have O₂ := O₁.step x₂
  rw [Rp.int_iff] at r₂
  obtain ⟨t, rfl⟩ := r₂
  obtain ⟨vs, hd, hk, hr, hm⟩ := (O₂.own o _ ho).2.1
  refine wpAny_setItem_pairs (intKind_is p w i t) hd (fun h' hd' hsb => ?_) (by simp [hk]; omega)
  have e1 : stored (ks.zip vs) i v = (ks ++ [i]).zip (vs ++ [v]) := by
    unfold stored
    have : ((ks.zip vs).any fun kv => decide (kv.1 = i)) = false := by
      rw [List.any_eq_false]
      intro x hx
      have := (List.of_mem_zip (show (x.1, x.2) ∈ ks.zip vs from hx)).1
      exact fun q => hnew ((of_decide_eq_true q) ▸ this)
    rw [this, List.zip_append hk]
    simp
  rw [e1] at hd'
  exact hQ _ _ _ hP ⟨rfl, α, g₂, O₂.mut ho hsb (Nat.le_succ _) ⟨vs ++ [v], hd', by simp [hk], hr.snoc (r₁.mono x₂.le), hm⟩⟩

-- del o[i]
theorem wx_del {o : Str} {np sp pos : Pos} {ei : Expr} {l : List D} {i : Int} {j : Nat} (ho : ω.lookup o = some (.lst l)) (hv : isVar sc o = true) (hi : EvV p k sc σ ω ei (.int i)) (hj : j < l.length) (hij : i = j ∨ i + l.length = j ∧ i < 0) (hsz : l.length ≤ sizeLine) (hP : P (.nxt σ (updO ω o (.lst (l.eraseIdx j))))) :
    Wx p k sc (.Delete [.Subscript (.Name o np) ei sp] pos) σ ω P := .mk fun w A env B α g s Q E hA hs O hQ => by
  refine wpAny_Delete (wpAny_deleteEach_cons (wpAny_delete_Subscript (wp_ownName O ho (hs ▸ hv) ?_)))
  refine hi.go w A env B α g s _ E hA hs O fun u g₂ s₂ x₂ r₂ => ?_
  have O₂ := O.step x₂
  rw [Rp.int_iff] at r₂
  obtain ⟨t, rfl⟩ := r₂
  obtain ⟨n, vs, hob, hr⟩ := O₂.lst ho
  have hlen := hr.length
  have hz : l.length ≤ 2 ^ 24 := hsz
  refine PySem.P.delItem_list (n := n) (items := vs.toArray) (k := j) hob ?_ ?_ ?_ (by rw [List.size_toArray, hlen]; exact hsz)
  · unfold Builtin.List.listFitsIndex
    simp; omega
  · rw [List.size_toArray, hlen]
    rcases hij with h | ⟨h, h'⟩
    · rw [seqIndex_of (by omega) (by omega)]; congr 1; omega
    · rw [MeetsSeq.seqIndex_neg (by omega) (by omega)]; congr 1; omega
  · have up := IsL.update (l := α o) (items := vs.toArray) (n := n) hob fun xs => xs.eraseIdxIfInBounds j
    have e1 : (vs.toArray.eraseIdxIfInBounds j) = (vs.eraseIdx j).toArray := by
      rw [Array.eraseIdxIfInBounds, dif_pos (by simp [hlen, hj])]
      simp
    rw [e1] at up
    refine wpAny_deleteEach_nil (hQ _ _ _ hP ⟨rfl, α, g₂, O₂.mut (tk := s₂.toks) ho (Heap.SameBut.update ..) (Nat.le_refl _) ⟨_, vs.eraseIdx j, up, ?_⟩⟩)
    refine RpL.of_get (by simp [List.length_eraseIdx, hlen]) fun m d v hd hv' => ?_
    rw [List.getElem?_eraseIdx] at hd hv'
    by_cases q : m < j
    · rw [if_pos q] at hd hv'
      obtain ⟨u, hu, rr⟩ := hr.get hd
      rw [hu] at hv'; cases hv'; exact rr
    · rw [if_neg q] at hd hv'
      obtain ⟨u, hu, rr⟩ := hr.get hd
      rw [hu] at hv'; cases hv'; exact rr

/-- no more changes: x is frozen -/
theorem ws_freeze {ss : List Stmt} {x : Str} {c : OC} {ω' : List (Str × OC)} (hx : ω.lookup x = some c) (hω : ∀ y c, ω'.lookup y = some c → ω.lookup y = some c) (hn : ω'.lookup x = none) (h : Ws p k sc ss ((x, c.d) :: σ) ω' P) : Ws p k sc ss σ ω P := .mk fun w A env B α g s Q E hA hs O hQ => by
  obtain ⟨q1, q2, q3, q4, q5, q6⟩ := O.own x c hx
  obtain ⟨o, ho⟩ := q2.some
  have le := PH.put_le (o := o) q3
  have off : ∀ b, g b = none → b ≠ α x → (g.put (α x) o) b = none := fun b h q => by unfold PH.put; rw [if_neg q]; exact h
  refine h.go w A env B α (g.put (α x) o) s Q E hA hs ?_ hQ
  exact { e := { O.e with
                  sub := fun b o' e => by
                    unfold PH.put at e
                    split at e
                    · rename_i q; subst q; cases e; exact ho
                    · exact O.e.sub b o' e
                  gd := O.e.gd.mono le
                  vars := fun y d hl hk => by
                    rw [List.lookup_cons] at hl
                    cases e : y == x with
                    | true =>
                      rw [e] at hl; cases hl
                      obtain rfl := eq_of_beq e
                      exact ⟨_, q1, q2.rp ((PH.put_self g (α y) o).trans ho.symm) le⟩
                    | false =>
                      rw [e] at hl
                      obtain ⟨v, hv, r⟩ := O.e.vars y d hl hk; exact ⟨v, hv, r.mono le⟩ }
          same := O.same, keep := O.keep, klt := O.klt, le := O.le.trans le
          fresh := fun a o' e => by
            unfold PH.put at e
            split at e
            · rename_i q; subst q; exact .inr q4
            · exact O.fresh a o' e
          old := O.old, tks := O.tks
          xs := fun y hy => let ⟨h1, h2, h3⟩ := O.xs y hy; ⟨h1, off _ h2 fun q => h3 (by rw [q]; exact q4), h3⟩
          offL := ⟨off _ O.offL.1 (Ne.symm q5), O.offL.2⟩
          offC := fun n c hc => let ⟨h1, h2⟩ := O.offC n c hc; ⟨off _ h1 (Ne.symm (q6 n c hc)), h2⟩
          inj := O.inj
          own := fun y c' hc => by
            have hc' := hω y c' hc
            obtain ⟨h1, h2, h3, h4⟩ := O.own y c' hc'
            exact ⟨h1, h2.at le fun _ e => e, off _ h3 (O.apart y x c' c hc' hx fun q => by rw [q, hn] at hc; cases hc), h4⟩
          apart := fun y z c d hy hz => O.apart y z c d (hω y c hy) (hω z d hz) }
end
end Mine
end
section
open PySem PySem.Calls PyProof.Rows
set_option maxRecDepth 100000
set_option linter.unusedVariables false
namespace Mine
/-- what is stored: a frozen thing, or one that its name alone will hold -/
inductive Part where
  | fr (d : D)
  | own (c : OC)
noncomputable def OC.flat : OC → Bool
  | .lst l => flatL l
  | .dct _ l => flatL l
section
variable {p : Program} {w : World} {k : Nat} {sc : Scope} {σ : List (Str × D)} {ω : List (Str × OC)} {P : Out → Prop}
structure EvOwn (p : Program) (k : Nat) (sc : Scope) (σ : List (Str × D)) (e : Expr) (c : OC) : Prop where
  go : ∀ (w : World) (A : Around) (env : Env) (g : PH) (s : Shared) (Q : Value → Shared → Prop) (E : Value → Shared → Prop), Rm k A → env.scope = sc → EOk p w env σ g s →
    (∀ a g' s', s.heap.get? a = none → Stp g g' s s' → OwnAt p w g' s'.heap a c → g' a = none → Q (.ref a) s') → wpAny (model p w) A (eval e env) Q E s
theorem EvN.own {e : Expr} {c : OC} (h : EvN p k sc σ e c.d) (hf : c.flat = true) (hm : ∀ ks l, c = .dct ks l → True) : EvOwn p k sc σ e c := .mk fun w A env g s Q E hA hs O hQ => h.go w A env g s Q E hA hs O fun a g' s' hn X r => by
  have ga : ∀ o, g' a = some o → s'.heap.get? a = some o := fun o e => X.sub a o e
  have gn : g a = none := by
    cases e : g a with
    | none => rfl
    | some o => rw [O.sub a o e] at hn; cases hn
  have Y : Stp g (g'.del (· = a)) s s' := ⟨fun b o e => by
    have : b ≠ a := fun q => by rw [q, gn] at e; cases e
    rw [PH.del_out (S := (· = a)) this]; exact X.le b o e, fun b o e => X.sub b o (PH.del_of e).2, fun b o e => X.fresh b o (PH.del_of e).2, X.keep, X.same, X.tks⟩
  refine hQ a _ s' hn Y ?_ (PH.del_in rfl)
  cases c with
  | lst l =>
    have r' : Rp p w g' (.lst l) (.ref a) := r
    rw [Rp.lst_iff] at r'
    obtain ⟨a', n, vs, e, hg, hl⟩ := r'
    cases e
    exact ⟨n, vs, ga _ hg, RpL.detachF (fun b o q e => by rw [q, hg] at e; cases e; exact ⟨(by show Value.type "list" ≠ Value.type "tuple"; decide), (by show Value.type "list" ≠ Value.type "range"; decide)⟩) l vs (flatL_iff.mp hf) hl⟩
  | dct ks l =>
    have r' : Rp p w g' (.dct ks l) (.ref a) := r
    rw [Rp.dct_iff] at r'
    obtain ⟨a', o, vs, e, hg, hm, hd, hk, hl⟩ := r'
    cases e
    refine ⟨vs, Heap.dictOf_iff.mpr ⟨o, ga _ hg, hd⟩, hk, RpL.detachF (fun b o' q e => ?_) l vs (flatL_iff.mp hf) hl, hm⟩
    rw [q, hg] at e; cases e
    obtain ⟨es, ep, hc, _⟩ := hd
    rw [exact_cls hc]; exact ⟨by decide, by decide⟩

/-- x = a new thing of x's own -/
theorem wx_own {x : Str} {xp pos : Pos} {e : Expr} {c : OC} (h : EvOwn p k sc σ e c) (hx : isOwn sc x = true) (hw : ω.lookup x = none) (hσ : σ.lookup x = none) (hP : P (.nxt σ ((x, c) :: ω)))
    (hsw : ∀ env : Env, env.scope = sc → swapsWith e (some (.Name x xp)) pos.line env = pure false) : Wx p k sc (.Assign [.Name x xp] e pos) σ ω P := .mk fun w A env B α g s Q E hA hs O hQ =>
  wpAny_Assign_Name (h.go w A env g s _ E hA hs O.e fun a g' s' hn X oa ga => by
    have ap := O.known hn
    exact wp_storeOwn (Z := fun _ => True) (O.step X) (hs ▸ hx) hw hσ oa ⟨ga, ap.new, ap.loc, ap.cell, ap.own⟩ Calm.true trivial fun s'' O'' _ => hQ _ _ s'' hP ⟨rfl, _, g', O''⟩) (hsw env hs)

noncomputable def Offs (a : Addr) : List Part → List Value → Prop
  | .own _ :: l, v :: vs => v ≠ .ref a ∧ Offs a l vs
  | .fr _ :: l, _ :: vs => Offs a l vs
  | _, _ => True
noncomputable def Made (p : Program) (w : World) (g : PH) (s : Shared) (h : Heap) : List Part → List Value → Prop
  | [], vs => vs = []
  | .fr d :: l, vs => ∃ v vs', vs = v :: vs' ∧ Rp p w g d v ∧ Made p w g s h l vs'
  | .own c :: l, vs => ∃ a vs', vs = .ref a :: vs' ∧ OwnAt p w g h a c ∧ g a = none ∧ s.heap.get? a = none ∧ Offs a l vs' ∧ Made p w g s h l vs'
theorem Made.step {w : World} {g g' : PH} {s s₁ s₂ : Shared} (X : Stp g g' s₁ s₂) : ∀ {l : List Part} {vs : List Value}, Made p w g s s₁.heap l vs → Made p w g' s s₂.heap l vs
  | [], _, h => h
  | .fr d :: l, _, ⟨v, vs', e, r, h⟩ => ⟨v, vs', e, r.mono X.le, h.step X⟩
  | .own c :: l, _, ⟨a, vs', e, oa, ga, hn, off, h⟩ => ⟨a, vs', e, oa.at X.le fun o => X.keep _ o, let ⟨o, ho⟩ := oa.some; off_step X ga ho, hn, off, h.step X⟩
theorem Made.back {w : World} {g : PH} {s s₁ : Shared} {h : Heap} (k : ∀ b o, s.heap.get? b = some o → s₁.heap.get? b = some o) : ∀ {l : List Part} {vs : List Value}, Made p w g s₁ h l vs → Made p w g s h l vs
  | [], _, h => h
  | .fr d :: l, _, ⟨v, vs', e, r, h⟩ => ⟨v, vs', e, r, h.back k⟩
  | .own c :: l, _, ⟨a, vs', e, oa, ga, hn, off, h⟩ => ⟨a, vs', e, oa, ga, none_of_keep k hn, off, h.back k⟩
theorem Made.off {w : World} {g : PH} {s : Shared} {h : Heap} {a : Addr} {o : Obj} (ha : s.heap.get? a = some o) : ∀ {l : List Part} {vs : List Value}, Made p w g s h l vs → Offs a l vs
  | [], _, h => by rw [Made] at h; subst h; trivial
  | .fr d :: l, _, ⟨v, vs', e, r, h⟩ => by subst e; exact h.off ha
  | .own c :: l, _, ⟨b, vs', e, oa, ga, hn, off, h⟩ => by
    subst e
    exact ⟨(fun q => by cases q; rw [ha] at hn; cases hn), h.off ha⟩
theorem Made.length {w : World} {g : PH} {s : Shared} {h : Heap} : ∀ {l : List Part} {vs : List Value}, Made p w g s h l vs → vs.length = l.length
  | [], _, h => by rw [Made] at h; subst h; rfl
  | .fr d :: l, _, ⟨v, vs', e, r, h⟩ => by subst e; simp [h.length]
  | .own c :: l, _, ⟨b, vs', e, oa, ga, hn, off, h⟩ => by subst e; simp [h.length]

structure EvPs (p : Program) (k : Nat) (sc : Scope) (σ : List (Str × D)) (es : List Expr) (ps : List Part) : Prop where
  go : ∀ (w : World) (A : Around) (env : Env) (g : PH) (s : Shared) (pos : Pos) (Q : List Value → Shared → Prop) (E : Value → Shared → Prop), Rm k A → env.scope = sc → EOk p w env σ g s →
    (∀ vs g' s', Stp g g' s s' → Made p w g' s s'.heap ps vs → Q vs s') → wpAny (model p w) A (spliced (backTo pos (starEach es env))) Q E s
theorem evps_nil : EvPs p k sc σ [] [] := .mk fun w A env g s pos Q E _ _ O hQ => PyProof.Rows.spliced_none (hQ [] g s (.refl O.sub) rfl)
theorem evps_fr {e : Expr} {es : List Expr} {d : D} {ps : List Part} (h : Ev p k sc σ e d) (hr : EvPs p k sc σ es ps) (he : ∀ env, starEach (e :: es) env = (false, eval e env) :: starEach es env := by intro _; rfl) : EvPs p k sc σ (e :: es) (.fr d :: ps) := .mk fun w A env g s pos Q E hA hs O hQ =>
  PyProof.Rows.spliced_more (h.go w A env g s _ E hA hs O fun v g₁ s₁ x₁ r₁ => hr.go w A env g₁ s₁ pos _ E hA hs (O.step x₁) fun vs g₂ s₂ x₂ m₂ => hQ _ g₂ s₂ (x₁.trans x₂) ⟨v, vs, rfl, r₁.mono x₂.le, m₂.back x₁.keep⟩) (he env)
theorem evps_own {e : Expr} {es : List Expr} {c : OC} {ps : List Part} (h : EvOwn p k sc σ e c) (hr : EvPs p k sc σ es ps) (he : ∀ env, starEach (e :: es) env = (false, eval e env) :: starEach es env := by intro _; rfl) : EvPs p k sc σ (e :: es) (.own c :: ps) := .mk fun w A env g s pos Q E hA hs O hQ =>
  PyProof.Rows.spliced_more (h.go w A env g s _ E hA hs O fun a g₁ s₁ hn x₁ oa ga => hr.go w A env g₁ s₁ pos _ E hA hs (O.step x₁) fun vs g₂ s₂ x₂ m₂ => by
    obtain ⟨o, ho⟩ := oa.some
    exact hQ _ g₂ s₂ (x₁.trans x₂) ⟨a, vs, rfl, oa.at x₂.le fun o => x₂.keep _ o, off_step x₂ ga ho, hn, m₂.off ho, m₂.back x₁.keep⟩) (he env)

inductive FA {α β : Type} (F : α → β → Prop) : List α → List β → Prop
  | nil : FA F [] []
  | cons {a b l m} : F a b → FA F l m → FA F (a :: l) (b :: m)
-- the stores
noncomputable def pushP (x : Str) : Part → List (Str × D) × List (Str × OC) → List (Str × D) × List (Str × OC)
  | .fr d, st => ((x, d) :: st.1, st.2)
  | .own c, st => (st.1, (x, c) :: st.2)
noncomputable def okP (sc : Scope) (x : Str) : Part → List (Str × D) × List (Str × OC) → Prop
  | .fr _, st => isOwn sc x = true ∧ st.2.lookup x = none
  | .own _, st => isOwn sc x = true ∧ st.2.lookup x = none ∧ st.1.lookup x = none
noncomputable def pushes : List (Str × Part) → List (Str × D) × List (Str × OC) → List (Str × D) × List (Str × OC)
  | [], st => st
  | (x, c) :: r, st => pushes r (pushP x c st)
noncomputable def okPs (sc : Scope) : List (Str × Part) → List (Str × D) × List (Str × OC) → Prop
  | [], _ => True
  | (x, c) :: r, st => okP sc x c st ∧ okPs sc r (pushP x c st)

noncomputable def Pend (p : Program) (w : World) (B : Bs) (α : Str → Addr) (env : Env) (ω : List (Str × OC)) (g : PH) (h : Heap) : List Part → List Value → Prop
  | [], vs => vs = []
  | .fr d :: l, vs => ∃ v vs', vs = v :: vs' ∧ Rp p w g d v ∧ Pend p w B α env ω g h l vs'
  | .own c :: l, vs => ∃ a vs', vs = .ref a :: vs' ∧ OwnAt p w g h a c ∧ Apart B α env ω g a ∧ Offs a l vs' ∧ Pend p w B α env ω g h l vs'
theorem Made.pend {B : Bs} {α : Str → Addr} {env : Env} {g₀ g : PH} {s : Shared} {h : Heap} (O : SOk p w B α env σ ω g₀ s) : ∀ {l : List Part} {vs : List Value}, Made p w g s h l vs → Pend p w B α env ω g h l vs
  | [], _, h => h
  | .fr d :: l, _, ⟨v, vs', e, r, h⟩ => ⟨v, vs', e, r, h.pend O⟩
  | .own c :: l, _, ⟨a, vs', e, oa, ga, hn, off, h⟩ => ⟨a, vs', e, oa, let ap := O.known hn; ⟨ga, ap.new, ap.loc, ap.cell, ap.own⟩, off, h.pend O⟩
theorem Pend.calm {B : Bs} {α : Str → Addr} {env : Env} {g : PH} : ∀ {l : List Part} {vs : List Value}, Calm env fun h => Pend p w B α env ω g h l vs
  | [], _ => fun _ _ _ _ _ z => z
  | .fr d :: l, _ => fun b h h' hb hs ⟨v, vs', e, r, z⟩ => ⟨v, vs', e, r, Pend.calm b h h' hb hs z⟩
  | .own c :: l, _ => fun b h h' hb hs ⟨a, vs', e, oa, ap, off, z⟩ => ⟨a, vs', e, oa.at (.refl _) fun o => hs.extBut a o (fun q => by
      rcases hb with hb | ⟨n, hb⟩
      · exact ap.loc (q.trans hb)
      · exact ap.cell n b hb q), ap, off, Pend.calm b h h' hb hs z⟩
theorem Pend.own {B : Bs} {α : Str → Addr} {env : Env} {g : PH} {h : Heap} {x : Str} {a : Addr} {c : OC} : ∀ {l : List Part} {vs : List Value}, Offs a l vs → Pend p w B α env ω g h l vs → Pend p w B (setA α x a) env ((x, c) :: ω) g h l vs
  | [], _, _, z => z
  | .fr d :: l, _, off, ⟨v, vs', e, r, z⟩ => by subst e; exact ⟨v, vs', rfl, r, Pend.own off z⟩
  | .own c' :: l, _, off, ⟨b, vs', e, oa, ap, off', z⟩ => by
    subst e
    refine ⟨b, vs', rfl, oa, ⟨ap.g, ap.new, ap.loc, ap.cell, fun y d hy => ?_⟩, off', Pend.own off.2 z⟩
    rw [List.lookup_cons] at hy
    unfold setA
    by_cases q : y = x
    · rw [if_pos q]
      exact fun q => off.1 (by rw [q])
    · rw [if_neg q]
      rw [beq_eq_false_iff_ne.mpr q] at hy
      exact ap.own y d hy
theorem wp_pushes {A : Around} {B : Bs} {env : Env} {g : PH} {E : Value → Shared → Prop} : ∀ (l : List (Str × Part)) (vs : List Value) (stores : List (Value → Sem Unit)) (α : Str → Addr) (st : List (Str × D) × List (Str × OC)) (s : Shared) (Q : Unit → Shared → Prop),
    FA (fun (f : Value → Sem Unit) (x : Str × Part) => ∀ (v : Value) (Q : Unit → Shared → Prop) (s : Shared), wpAny (model p w) A (storeName env x.1 v) Q E s → wpAny (model p w) A (f v) Q E s) stores l →
    SOk p w B α env st.1 st.2 g s → Pend p w B α env st.2 g s.heap (l.map (·.2)) vs → okPs env.scope l st →
    (∀ α' s', SOk p w B α' env (pushes l st).1 (pushes l st).2 g s' → Q () s') → wpAny (model p w) A (assignInOrder stores vs) Q E s
  | [], vs, stores, α, st, s, Q, hf, O, hp, ok, hQ => by
    cases hf
    have : vs = [] := hp
    subst this
    show wpAny _ _ (pure ()) Q E s
    exact wpAny_pure (hQ α s O)
  | (x, .fr d) :: l, vs, stores, α, st, s, Q, hf, O, hp, ok, hQ => by
    cases hf with
    | cons h1 h2 =>
      rename_i f fs
      obtain ⟨v, vs', rfl, r, z⟩ := hp
      show wpAny _ _ (holding vs' (f v) >>= fun _ => assignInOrder fs vs') Q E s
      refine wpAny_bind (wpAny_holding (h1 v _ s ?_))
      exact wp_storeZ O ok.1.1 ok.1.2 r Pend.calm z fun s' O' z' => wp_pushes l vs' fs α (pushP x (.fr d) st) s' Q h2 O' z' ok.2 hQ
  | (x, .own c) :: l, vs, stores, α, st, s, Q, hf, O, hp, ok, hQ => by
    cases hf with
    | cons h1 h2 =>
      rename_i f fs
      obtain ⟨a, vs', rfl, oa, ap, off, z⟩ := hp
      show wpAny _ _ (holding vs' (f (.ref a)) >>= fun _ => assignInOrder fs vs') Q E s
      refine wpAny_bind (wpAny_holding (h1 (.ref a) _ s ?_))
      exact wp_storeOwn O ok.1.1 ok.1.2.1 ok.1.2.2 oa ap Pend.calm z fun s' O' z' => wp_pushes l vs' fs _ (pushP x (.own c) st) s' Q h2 O' (Pend.own off z') ok.2 hQ

theorem wp_asName {A : Around} {env : Env} {E : Value → Shared → Prop} {x : Str} {xp : Pos} (v : Value) (Q : Unit → Shared → Prop) (s : Shared) (h : wpAny (model p w) A (storeName env x v) Q E s) : wpAny (model p w) A (assign (.Name x xp) env v) Q E s := wpAny_assign_Name h
theorem Made.ofRp {g : PH} {s : Shared} {h : Heap} : ∀ {ds : List D} {vs : List Value}, RpL p w g ds vs → Made p w g s h (ds.map .fr) vs
  | [], vs, r => by rw [RpL] at r; exact r
  | d :: ds, vs, r => by
    rw [RpL] at r
    obtain ⟨v, vs', e, h1, h2⟩ := r
    exact ⟨v, vs', e, h1, Made.ofRp h2⟩
/-- the value is made, and its items are at hand -/
structure EvItems (p : Program) (k : Nat) (sc : Scope) (σ : List (Str × D)) (ω : List (Str × OC)) (e : Expr) (ps : List Part) : Prop where
  go : ∀ (w : World) (A : Around) (env : Env) (B : Bs) (α : Str → Addr) (g : PH) (s : Shared) (Q : List Value → Shared → Prop) (E : Value → Shared → Prop), Rm k A → env.scope = sc → SOk p w B α env σ ω g s →
    (∀ vs g' s', Stp g g' s s' → Made p w g' s s'.heap ps vs → Q vs s') → wpAny (model p w) A (eval e env) (fun v s₁ => wpAny (model p w) A (unpackItems v ps.length none) Q E s₁) E s
theorem eit_frozen {e : Expr} {d : D} {ds : List D} (h : EvV p k sc σ ω e d) (hd : d = .lst ds ∨ d = .tup ds) (hz : ds.length < 2 ^ 60) : EvItems p k sc σ ω e (ds.map .fr) := .mk fun w A env B α g s Q E hA hs O hQ => by
  refine h.go w A env B α g s _ E hA hs O fun v g₁ s₁ x₁ r₁ => ?_
  have hi : itemsOf d = some ds := by rcases hd with rfl | rfl <;> rfl
  rw [List.length_map]
  exact wp_unpack hi hd hz r₁ x₁.sub hA.1 fun vs s' x' rr => hQ vs g₁ s' (x₁.trans x') (Made.ofRp rr)
theorem eit_tuple {es : List Expr} {ps : List Part} {j : Nat} {pos : Pos} (h : EvPs p k sc σ es ps) (hz : ps.length ≤ sizeLine) : EvItems p k sc σ ω (.Tuple es j pos) ps := .mk fun w A env B α g s Q E hA hs O hQ => by
  refine PyProof.Rows.Tuple_ (h.go w A env g s pos _ E hA hs O.e fun vs g₁ s₁ x₁ m₁ => ?_)
  have hl := m₁.length
  refine wpAny_newTuple ?_ (by rw [hl]; exact hz)
  have X : Stp g₁ g₁ s₁ { s₁ with heap := s₁.heap.push (tupO vs) } := .grow (t := s₁.toks) x₁.sub (fun b o e => Heap.get?_push_of_some _ e) (Nat.le_refl _)
  have ht : IsTup (s₁.heap.push (tupO vs)) s₁.heap.objs.size vs.toArray := ⟨_, Heap.get?_push_size _ rfl, rfl, 0, rfl⟩
  have e : ps.length = vs.toArray.size := by simp [hl]
  rw [e]
  refine unpackItems_tuple hA.1 ht fun h' he => ?_
  have Y : Stp g₁ g₁ { s₁ with heap := s₁.heap.push (tupO vs) } { s₁ with heap := h' } := .grow (t := s₁.toks) X.sub (fun b o e => he b o (Nat.ne_of_lt (Heap.lt_size e)) e) (Nat.le_refl _)
  have := hQ vs g₁ _ ((x₁.trans X).trans Y) (m₁.step (X.trans Y))
  simpa using this

theorem Made.rev2 {B : Bs} {α : Str → Addr} {env : Env} {g₀ g : PH} {s : Shared} {h : Heap} (O : SOk p w B α env σ ω g₀ s) {c₁ c₂ : Part} {vs : List Value} (m : Made p w g s h [c₁, c₂] vs) : ∃ v₁ v₂, vs = [v₁, v₂] ∧ Pend p w B α env ω g h [c₂, c₁] [v₂, v₁] := by
  have ap : ∀ {a : Addr}, s.heap.get? a = none → g a = none → Apart B α env ω g a := fun hn ga => let ap := O.known hn; ⟨ga, ap.new, ap.loc, ap.cell, ap.own⟩
  cases c₁ with
  | fr d₁ =>
    obtain ⟨v₁, vs', rfl, r₁, m⟩ := m
    cases c₂ with
    | fr d₂ =>
      obtain ⟨v₂, vs'', rfl, r₂, e⟩ := m
      have e : vs'' = [] := e
      subst e
      exact ⟨v₁, v₂, rfl, v₂, _, rfl, r₂, v₁, _, rfl, r₁, rfl⟩
    | own c₂ =>
      obtain ⟨a₂, vs'', rfl, oa, ga, hn, off, e⟩ := m
      have e : vs'' = [] := e
      subst e
      exact ⟨v₁, _, rfl, a₂, _, rfl, oa, ap hn ga, trivial, v₁, _, rfl, r₁, rfl⟩
  | own c₁ =>
    obtain ⟨a₁, vs', rfl, oa₁, ga₁, hn₁, off₁, m⟩ := m
    cases c₂ with
    | fr d₂ =>
      obtain ⟨v₂, vs'', rfl, r₂, e⟩ := m
      have e : vs'' = [] := e
      subst e
      exact ⟨_, v₂, rfl, v₂, _, rfl, r₂, a₁, _, rfl, oa₁, ap hn₁ ga₁, trivial, rfl⟩
    | own c₂ =>
      obtain ⟨a₂, vs'', rfl, oa, ga, hn, off, e⟩ := m
      have e : vs'' = [] := e
      subst e
      exact ⟨_, _, rfl, a₂, _, rfl, oa, ap hn ga, ⟨fun q => off₁.1 q.symm |> fun h => by cases q; exact off₁.1 rfl, trivial⟩, a₁, _, rfl, oa₁, ap hn₁ ga₁, trivial, rfl⟩
theorem wx_tup2 {x₁ x₂ : Str} {p₁ p₂ tpos pos : Pos} {j : Nat} {e : Expr} {c₁ c₂ : Part} (sw : Bool) (h : EvItems p k sc σ ω e [c₁, c₂]) (ok : okPs sc (if sw then [(x₂, c₂), (x₁, c₁)] else [(x₁, c₁), (x₂, c₂)]) (σ, ω))
    (hP : P (.nxt (pushes (if sw then [(x₂, c₂), (x₁, c₁)] else [(x₁, c₁), (x₂, c₂)]) (σ, ω)).1 (pushes (if sw then [(x₂, c₂), (x₁, c₁)] else [(x₁, c₁), (x₂, c₂)]) (σ, ω)).2))
    (hs : ∀ env : Env, env.scope = sc → swapsWithSole [.Tuple [.Name x₁ p₁, .Name x₂ p₂] j tpos] e pos.line env = pure false)
    (hw : ∀ env : Env, env.scope = sc → env.scope.kind = .function → swappedStores [.Tuple [.Name x₁ p₁, .Name x₂ p₂] j tpos] e env = pure (if sw then some [x₁, x₂] else none)) : Wx p k sc (.Assign [.Tuple [.Name x₁ p₁, .Name x₂ p₂] j tpos] e pos) σ ω P := .mk fun w A env B α g s Q E hA hsc O hQ => by
  have hw' := hw env hsc O.e.kind
  cases sw with
  | true =>
    refine Assign_Tuple_swapped (names := [x₁, x₂]) (h.go w A env B α g s _ E hA hsc O fun vs g' s' X m => ?_) (hs env hsc) hw'
    obtain ⟨v₁, v₂, rfl, pd⟩ := m.rev2 O
    exact wp_pushes [(x₂, c₂), (x₁, c₁)] [v₂, v₁] _ α (σ, ω) s' _ (.cons (fun v Q s h => wpAny_bindName h) (.cons (fun v Q s h => wpAny_bindName h) .nil)) (O.step X) pd (hsc ▸ ok) fun α' s'' O' => hQ _ _ s'' hP ⟨rfl, α', g', O'⟩
  | false =>
    refine PyProof.Rows.Assign_Tuple (wpAny_mono (h.go w A env B α g s (fun vs s' => wpAny (model p w) A (assignInOrder [assign (.Name x₁ p₁) env, assign (.Name x₂ p₂) env] vs) (fun _ s'' => Q .next s'') E s') E hA hsc O fun vs g' s' X m => ?_) (fun v s₁ h₁ => ?_) fun _ _ x => x) (hs env hsc) hw'
    · exact wp_pushes [(x₁, c₁), (x₂, c₂)] vs _ α (σ, ω) s' _ (.cons wp_asName (.cons wp_asName .nil)) (O.step X) (m.pend O) (hsc ▸ ok) fun α' s'' O' => hQ _ _ s'' hP ⟨rfl, α', g', O'⟩
    · rw [PyProof.Rows.assign_Tuple]
      refine wpAny_bind (wpAny_standAt ?_)
      show wpAny _ A (holding [v] (unpackItems v 2 none) >>= fun vs => assignInOrder _ vs) _ _ _
      exact wpAny_bind (wpAny_holding h₁)
theorem wx_tup3 {x₁ x₂ x₃ : Str} {p₁ p₂ p₃ tpos pos : Pos} {j : Nat} {e : Expr} {c₁ c₂ c₃ : Part} (h : EvItems p k sc σ ω e [c₁, c₂, c₃]) (ok : okPs sc [(x₁, c₁), (x₂, c₂), (x₃, c₃)] (σ, ω))
    (hP : P (.nxt (pushes [(x₁, c₁), (x₂, c₂), (x₃, c₃)] (σ, ω)).1 (pushes [(x₁, c₁), (x₂, c₂), (x₃, c₃)] (σ, ω)).2))
    (hs : ∀ env : Env, env.scope = sc → swapsWithSole [.Tuple [.Name x₁ p₁, .Name x₂ p₂, .Name x₃ p₃] j tpos] e pos.line env = pure false)
    (hw : ∀ env : Env, env.scope = sc → env.scope.kind = .function → swappedStores [.Tuple [.Name x₁ p₁, .Name x₂ p₂, .Name x₃ p₃] j tpos] e env = pure none) : Wx p k sc (.Assign [.Tuple [.Name x₁ p₁, .Name x₂ p₂, .Name x₃ p₃] j tpos] e pos) σ ω P := .mk fun w A env B α g s Q E hA hsc O hQ => by
  refine PyProof.Rows.Assign_Tuple (wpAny_mono (h.go w A env B α g s (fun vs s' => wpAny (model p w) A (assignInOrder [assign (.Name x₁ p₁) env, assign (.Name x₂ p₂) env, assign (.Name x₃ p₃) env] vs) (fun _ s'' => Q .next s'') E s') E hA hsc O fun vs g' s' X m => ?_) (fun v s₁ h₁ => ?_) fun _ _ x => x) (hs env hsc) (hw env hsc O.e.kind)
  · exact wp_pushes [(x₁, c₁), (x₂, c₂), (x₃, c₃)] vs _ α (σ, ω) s' _ (.cons wp_asName (.cons wp_asName (.cons wp_asName .nil))) (O.step X) (m.pend O) (hsc ▸ ok) fun α' s'' O' => hQ _ _ s'' hP ⟨rfl, α', g', O'⟩
  · rw [PyProof.Rows.assign_Tuple]
    refine wpAny_bind (wpAny_standAt ?_)
    show wpAny _ A (holding [v] (unpackItems v 3 none) >>= fun vs => assignInOrder _ vs) _ _ _
    exact wpAny_bind (wpAny_holding h₁)

-- small statements
theorem wx_assert {t : Expr} {msg : Option Expr} {pos : Pos} (ht : EtV p k sc σ ω t true) (hP : P (.nxt σ ω)) : Wx p k sc (.Assert t msg pos) σ ω P := .mk fun w A env B α g s Q E hA hs O hQ =>
  wpAny_Assert_holds (ht.go w A env B α g s _ E hA hs O fun g' s' x => ⟨rfl, hQ _ _ s' hP ⟨rfl, α, g', O.step x⟩⟩)
/-- try, where nothing is raised -/
theorem wx_try {body : List Stmt} {h₀ : ExceptHandler} {hs' : List ExceptHandler} {pos : Pos} (h : Ws p k sc body σ ω P) : Wx p k sc (.Try body (h₀ :: hs') [] [] pos) σ ω P := .mk fun w A env B α g s Q E hA hs O hQ =>
  wpAny_Try_except (h.go w A env B α g s _ _ hA hs O fun o f s' ho hm => by
    have := hQ o f s' ho hm
    cases f with
    | next => exact wpAny_execs_nil this
    | _ => exact this)
end
end Mine
end
section
open PySem PySem.Calls PyProof.Rows
set_option maxRecDepth 100000
set_option linter.unusedVariables false
namespace Mine
/-- a slice, of anything -/
noncomputable def slcG {α : Type} (l : List α) (lo hi st : Option Int) : List α := (sliceRange (sliceBounds lo hi st l.length).1 (sliceBounds lo hi st l.length).2.1 (sliceBounds lo hi st l.length).2.2).filterMap (l[·]?)
theorem slcG_arr {α : Type} (l : List α) (lo hi st : Option Int) : slcG l lo hi st = (sliceRange (sliceBounds lo hi st l.length).1 (sliceBounds lo hi st l.length).2.1 (sliceBounds lo hi st l.length).2.2).filterMap (l.toArray[·]?) := by
  unfold slcG; congr 1; funext n; simp
theorem slcG_map {α β : Type} (f : α → β) (l : List α) (i j c : Option Int) : slcG (l.map f) i j c = (slcG l i j c).map f := by
  unfold slcG
  rw [List.length_map, List.map_filterMap]
  congr 1
  funext n
  simp
theorem slcG_le {α : Type} {l : List α} (lo hi st : Option Int) : (slcG l lo hi st).length ≤ l.length := by
  have h := slicePick_size_le (l.map fun _ => Value.none).toArray lo hi st
  have e : (slicePick (l.map fun _ => Value.none).toArray lo hi st).size = (slcG l lo hi st).length := by
    have := slcG_map (fun _ => Value.none) l lo hi st
    rw [slcG_arr] at this
    unfold slicePick
    rw [List.size_toArray]
    have e2 : (l.map fun _ => Value.none).toArray.size = (l.map fun _ => Value.none).length := by simp
    rw [e2, this, List.length_map]
  rw [e] at h
  simpa using h
theorem slcG_rev {α : Type} (l : List α) : slcG l none none (some (-1)) = l.reverse := by
  rw [slcG_arr, PySem.W.krv_bounds]
  show (sliceRange ((l.length : Int) - 1) (-1) (-1)).filterMap (l.toArray[·]?) = _
  rw [PySem.W.krv_sliceRange, PySem.W.krv_range, List.filterMap_reverse]
  have := PySem.W.krv_all l.toArray
  rw [List.size_toArray] at this
  rw [this]
theorem slcD_map {α : Type} (f : α → D) (l : List α) (i j c : Option Int) : slcD (l.map f) i j c = (slcG l i j c).map f := by
  unfold slcD slcG
  rw [List.length_map, List.map_filterMap]
  congr 1
  funext n
  simp
section
variable {p : Program} {w : World} {k : Nat} {sc : Scope} {σ : List (Str × D)}
theorem ev_sliceM {α : Type} {mk : α → D} {value : Expr} {lo hi st : Option Expr} {p₁ pos : Pos} {l : List α} {i j c : Option Int} (hv : Ev p k sc σ value (.lst (l.map mk))) (h1 : EvO p k sc σ lo i) (h2 : EvO p k sc σ hi j) (h3 : EvO p k sc σ st c) (hc : c ≠ some 0)
    (hz : l.length ≤ sizeLine) : EvN p k sc σ (.Subscript value (.Slice lo hi st p₁) pos) (.lst ((slcG l i j c).map mk)) := (ev_slice hv h1 h2 h3 hc (by simpa using hz)).of_eq (by rw [slcD_map])
theorem rp_ints {w : World} {g : PH} : ∀ {ns : List Int} {vs : List Value}, IntsAre vs ns → RpL p w g (ns.map D.int) vs
  | _, _, .nil => .nil g
  | _, _, .cons n t h => .cons (.int t) (rp_ints h)
/-- a slice of the caller's list -/
theorem ev_sliceA {value : Expr} {lo hi st : Option Expr} {p₁ pos : Pos} {ns : List Int} {i j c : Option Int} (hv : Ev p k sc σ value (.arg ns)) (h1 : EvO p k sc σ lo i) (h2 : EvO p k sc σ hi j) (h3 : EvO p k sc σ st c) (hc : c ≠ some 0)
    (hz : ns.length ≤ sizeLine) : EvN p k sc σ (.Subscript value (.Slice lo hi st p₁) pos) (.lst ((slcG ns i j c).map D.int)) := .mk fun w A env g s Q E hA hs O hQ => by
  refine wp_sub (hv.go w A env g s _ E hA hs O fun v₁ g₁ s₁ x₁ r₁ => ?_) fun o i => by cases st <;> first | exact .inl rfl | exact .inr rfl
  rw [arm_eval_Slice]
  refine wpAny_bind (wp_evo h1 hA hs (O.step x₁) fun vl g₂ s₂ x₂ p₂ => ?_)
  refine wpAny_bind (wpAny_holding (wp_evo h2 hA hs (O.step (x₁.trans x₂)) fun vu g₃ s₃ x₃ p₃ => ?_))
  refine wpAny_bind (wpAny_holding (wp_evo h3 hA hs (O.step ((x₁.trans x₂).trans x₃)) fun vc g₄ s₄ x₄ p₄ => ?_))
  have x := ((x₁.trans x₂).trans x₃).trans x₄
  have r := r₁.mono ((x₂.trans x₃).trans x₄).le
  refine wpAny_newObj_type (hd := by size_fits) ?_
  rw [Rp.arg_iff] at r
  obtain ⟨a, o, n, vs, rfl, hx, hcl, hda, hi⟩ := r
  have ho := x.sub a o hx
  have hl : s₄.heap.IsList a vs.toArray := ⟨o, ho, hcl, n, hda⟩
  have hr : RpL p w g₄ (ns.map D.int) vs := rp_ints hi
  have hlen : vs.length = ns.length := by rw [hr.length, List.length_map]
  refine ⟨"list", _, slot_list_getitem.lookup, (hl.push _).typeIs, ?_⟩
  have hzz : vs.toArray.size ≤ sizeLine := by simp [hlen, hz]
  refine wpAny_getItem_list_slice (hl.push _) (Heap.IsSliceOf.new _ vl vu vc) p₂ p₃ p₄ hc ?_ hzz
  have y : Stp g g₄ s { s₄ with heap := s₄.heap.push { cls := .type "slice", data := .fields #[vl, vu, vc] } } :=
    x.trans (Stp.grow x.sub (fun b o e => Heap.get?_push_of_some _ e) (Nat.le_refl _))
  have q : ({ cls := .type "list", data := .seq (slicePick vs.toArray i j c) } : Obj) = lstO ((sliceRange (sliceBounds i j c ns.length).1 (sliceBounds i j c ns.length).2.1 (sliceBounds i j c ns.length).2.2).filterMap (vs[·]?)) 0 := by
    simp [lstO, slicePick, hlen]
  rw [q]
  obtain ⟨z, e, le⟩ := put_new (w := w) (o := lstO ((sliceRange (sliceBounds i j c ns.length).1 (sliceBounds i j c ns.length).2.1 (sliceBounds i j c ns.length).2.2).filterMap (vs[·]?)) 0) y rfl
  refine hQ _ _ _ (none_of_keep y.keep (get?_size _)) z ?_
  have pk := (hr.pick ((sliceRange (sliceBounds i j c ns.length).1 (sliceBounds i j c ns.length).2.1 (sliceBounds i j c ns.length).2.2))).mono le
  have e1 : ((sliceRange (sliceBounds i j c ns.length).1 (sliceBounds i j c ns.length).2.1 (sliceBounds i j c ns.length).2.2).filterMap ((ns.map D.int)[·]?)) = (slcG ns i j c).map D.int := by
    unfold slcG
    rw [List.map_filterMap]
    congr 1
    funext m
    rw [List.getElem?_map]
  rw [e1] at pk
  exact .lst e pk
theorem itemAt_map {α : Type} {mk : α → D} {l : List α} {i : Int} {x : α} (h0 : 0 ≤ i) (h : l[i.toNat]? = some x) : itemAt (l.map mk) i = some (mk x) := by unfold itemAt; rw [if_pos h0]; simp [h]
theorem g_listM {α : Type} {mk : α → D} {l : List α} {i : Int} {x : α} (h0 : 0 ≤ i) (h : l[i.toNat]? = some x) (hz : l.length < 2 ^ 62) : OpD p k getItem (.lst (l.map mk)) (.int i) (mk x) := g_list (itemAt_map h0 h) (by simpa using hz)
theorem lm_add {α : Type} {mk : α → D} {a b : List α} (hz : a.length + b.length ≤ sizeLine) : OpD p k (binaryOp .Add) (.lst (a.map mk)) (.lst (b.map mk)) (.lst ((a ++ b).map mk)) := by
  rw [List.map_append]; exact l_add (by simpa using hz)
theorem any_int {x : Int} : ∀ {ns : List Int}, (ns.map D.int).any (fun d => eqF d (.int x)) = decide (x ∈ ns)
  | [] => by simp
  | n :: ns => by
    rw [List.map_cons, List.any_cons, any_int]
    by_cases h : n = x
    · simp [eqF, h]
    · simp [eqF, h, Ne.symm h]
theorem li_in {x : Int} {ns : List Int} : OpD p k (compareOp .In) (.int x) (.lst (ns.map D.int)) (.bool (decide (x ∈ ns))) := by
  rw [← any_int]; exact l_in fun d hd => by obtain ⟨n, _, rfl⟩ := List.mem_map.mp hd; rfl
theorem li_notIn {x : Int} {ns : List Int} : OpD p k (compareOp .NotIn) (.int x) (.lst (ns.map D.int)) (.bool (!decide (x ∈ ns))) := by
  rw [← any_int]; exact l_notIn fun d hd => by obtain ⟨n, _, rfl⟩ := List.mem_map.mp hd; rfl
theorem eqL_int : ∀ {a b : List Int}, eqL (a.map D.int) (b.map D.int) = decide (a = b)
  | [], [] => by simp [eqL]
  | [], b :: bs => by simp [eqL]
  | a :: as, [] => by simp [eqL]
  | a :: as, b :: bs => by
    rw [List.map_cons, List.map_cons, eqL, eqL_int, eqF]
    by_cases h : a = b
    · simp [h]
    · simp [h]
theorem okL_int : ∀ {a b : List Int}, okL (a.map D.int) (b.map D.int) = true
  | [], [] => rfl
  | [], b :: bs => rfl
  | a :: as, [] => rfl
  | a :: as, b :: bs => by rw [List.map_cons, List.map_cons, okL, okL_int]; rfl
theorem eqL_str : ∀ {a b : List Str}, eqL (a.map D.str) (b.map D.str) = decide (a = b)
  | [], [] => by simp [eqL]
  | [], b :: bs => by simp [eqL]
  | a :: as, [] => by simp [eqL]
  | a :: as, b :: bs => by
    rw [List.map_cons, List.map_cons, eqL, eqL_str, eqF]
    by_cases h : a = b
    · simp [h]
    · simp [h]
theorem okL_str : ∀ {a b : List Str}, okL (a.map D.str) (b.map D.str) = true
  | [], [] => rfl
  | [], b :: bs => rfl
  | a :: as, [] => rfl
  | a :: as, b :: bs => by rw [List.map_cons, List.map_cons, okL, okL_str]; rfl
theorem li_eq {a b : List Int} : OpD p k (compareOp .Eq) (.lst (a.map D.int)) (.lst (b.map D.int)) (.bool (decide (a = b))) := by rw [← eqL_int]; exact l_eq okL_int
theorem li_ne {a b : List Int} : OpD p k (compareOp .NotEq) (.lst (a.map D.int)) (.lst (b.map D.int)) (.bool (!decide (a = b))) := by rw [← eqL_int]; exact l_ne okL_int
theorem ls_ne {a b : List Str} : OpD p k (compareOp .NotEq) (.lst (a.map D.str)) (.lst (b.map D.str)) (.bool (!decide (a = b))) := by rw [← eqL_str]; exact l_ne okL_str

/-- comprehensions, the items of one make -/
theorem ev_compM {α β : Type} {mk' : β → D} {elt iter : Expr} {x : Str} {px : Pos} {ifs : List Expr} {scope : Scope} {pos : Pos} {src : D} {xs : List α} {mk : α → D} (pf : α → Bool) (f : α → β) (hi : Ev p k sc σ iter src) (hd : itemsOf src = some (xs.map mk)) (hsz : xs.length ≤ sizeLine)
    (hok : compOk scope sc x = true) (ht : ∀ a ∈ xs, Ets p k (relab scope sc) ((x, mk a) :: σ) ifs (pf a)) (he : ∀ a ∈ xs, pf a = true → Ev p k (relab scope sc) ((x, mk a) :: σ) elt (mk' (f a)))
    (hf : ∀ env x, foldedSetIterable iter env x = pure x := by intros; rfl) : EvN p k sc σ (.ListComp elt [⟨.Name x px, iter, ifs, 0⟩] scope pos) (.lst (((xs.filter pf).map f).map mk')) :=
  (ev_comp (f := fun a => mk' (f a)) hi hd hsz hok ht he hf).of_eq (by rw [List.map_map]; rfl)
theorem evu_compM {α β : Type} {mk' : β → D} {elt iter : Expr} {x : Str} {px : Pos} {ifs : List Expr} {scope : Scope} {pos : Pos} {src : D} {xs : List α} {mk : α → D} (pf : α → Bool) (f : α → β) (hi : Ev p k sc σ iter src) (hd : itemsOf src = some (xs.map mk)) (hsz : xs.length ≤ sizeLine)
    (hok : compOk scope sc x = true) (ht : ∀ a ∈ xs, Ets p k (relab scope sc) ((x, mk a) :: σ) ifs (pf a)) (he : ∀ a ∈ xs, pf a = true → Ev p k (relab scope sc) ((x, mk a) :: σ) elt (mk' (f a)))
    (hf : ∀ env x, foldedSetIterable iter env x = pure x := by intros; rfl) : EvU p k sc σ (.ListComp elt [⟨.Name x px, iter, ifs, 0⟩] scope pos) (.lst (((xs.filter pf).map f).map mk')) :=
  (evu_comp (f := fun a => mk' (f a)) hi hd hsz hok ht he hf).of_eq (by rw [List.map_map]; rfl)
theorem ev_compM0 {α β : Type} {mk' : β → D} {elt iter : Expr} {x : Str} {px : Pos} {scope : Scope} {pos : Pos} {src : D} {xs : List α} {mk : α → D} (f : α → β) (hi : Ev p k sc σ iter src) (hd : itemsOf src = some (xs.map mk)) (hsz : xs.length ≤ sizeLine)
    (hok : compOk scope sc x = true) (he : ∀ a ∈ xs, Ev p k (relab scope sc) ((x, mk a) :: σ) elt (mk' (f a)))
    (hf : ∀ env x, foldedSetIterable iter env x = pure x := by intros; rfl) : EvN p k sc σ (.ListComp elt [⟨.Name x px, iter, [], 0⟩] scope pos) (.lst ((xs.map f).map mk')) :=
  (ev_compM (pf := fun _ => true) f hi hd hsz hok (fun _ _ => ets_nil) (fun a ha _ => he a ha) hf).of_eq (by rw [List.filter_eq_self.mpr fun _ _ => rfl])
theorem evu_compM0 {α β : Type} {mk' : β → D} {elt iter : Expr} {x : Str} {px : Pos} {scope : Scope} {pos : Pos} {src : D} {xs : List α} {mk : α → D} (f : α → β) (hi : Ev p k sc σ iter src) (hd : itemsOf src = some (xs.map mk)) (hsz : xs.length ≤ sizeLine)
    (hok : compOk scope sc x = true) (he : ∀ a ∈ xs, Ev p k (relab scope sc) ((x, mk a) :: σ) elt (mk' (f a)))
    (hf : ∀ env x, foldedSetIterable iter env x = pure x := by intros; rfl) : EvU p k sc σ (.ListComp elt [⟨.Name x px, iter, [], 0⟩] scope pos) (.lst ((xs.map f).map mk')) :=
  (evu_compM (pf := fun _ => true) f hi hd hsz hok (fun _ _ => ets_nil) (fun a ha _ => he a ha) hf).of_eq (by rw [List.filter_eq_self.mpr fun _ _ => rfl])
theorem items_str {x : Str} : itemsOf (.str x) = some (x.cps.toList.map fun c => D.str ⟨#[c]⟩) := rfl
theorem items_lst {l : List D} : itemsOf (.lst l) = some l := rfl
theorem items_rng {n : Nat} : itemsOf (.rng n) = some ((List.range n).map fun (i : Nat) => D.int (i : Int)) := rfl
theorem ev_len {np pos : Pos} {e : Expr} {es : List Expr} {ds : List D} {d : D} (hk : sc.names.lookup ("len" : Str) = some .globalImplicit) (hargs : Evs p k sc σ (e :: es) ds) (hc : CallD p k (.builtin "len") ds d)
    (he : ∀ env, starEach (e :: es) env = (false, eval e env) :: starEach es env := by intro _; rfl) (hst : ∀ env, (starEach (e :: es) env).any (·.1) = false := by intro _; rfl) : Ev p k sc σ (.Call (.Name "len" np) (e :: es) [] pos) d := ev_callb (by decide +kernel) (by decide +kernel) hk hargs hc he hst
theorem ev_sum {np pos : Pos} {e : Expr} {es : List Expr} {ds : List D} {d : D} (hk : sc.names.lookup ("sum" : Str) = some .globalImplicit) (hargs : Evs p k sc σ (e :: es) ds) (hc : CallD p k (.builtin "sum") ds d)
    (he : ∀ env, starEach (e :: es) env = (false, eval e env) :: starEach es env := by intro _; rfl) (hst : ∀ env, (starEach (e :: es) env).any (·.1) = false := by intro _; rfl) : Ev p k sc σ (.Call (.Name "sum" np) (e :: es) [] pos) d := ev_callb (by decide +kernel) (by decide +kernel) hk hargs hc he hst
theorem ev_min {np pos : Pos} {e : Expr} {es : List Expr} {ds : List D} {d : D} (hk : sc.names.lookup ("min" : Str) = some .globalImplicit) (hargs : Evs p k sc σ (e :: es) ds) (hc : CallD p k (.builtin "min") ds d)
    (he : ∀ env, starEach (e :: es) env = (false, eval e env) :: starEach es env := by intro _; rfl) (hst : ∀ env, (starEach (e :: es) env).any (·.1) = false := by intro _; rfl) : Ev p k sc σ (.Call (.Name "min" np) (e :: es) [] pos) d := ev_callb (by decide +kernel) (by decide +kernel) hk hargs hc he hst
theorem ev_max {np pos : Pos} {e : Expr} {es : List Expr} {ds : List D} {d : D} (hk : sc.names.lookup ("max" : Str) = some .globalImplicit) (hargs : Evs p k sc σ (e :: es) ds) (hc : CallD p k (.builtin "max") ds d)
    (he : ∀ env, starEach (e :: es) env = (false, eval e env) :: starEach es env := by intro _; rfl) (hst : ∀ env, (starEach (e :: es) env).any (·.1) = false := by intro _; rfl) : Ev p k sc σ (.Call (.Name "max" np) (e :: es) [] pos) d := ev_callb (by decide +kernel) (by decide +kernel) hk hargs hc he hst
theorem ev_abs {np pos : Pos} {e : Expr} {es : List Expr} {ds : List D} {d : D} (hk : sc.names.lookup ("abs" : Str) = some .globalImplicit) (hargs : Evs p k sc σ (e :: es) ds) (hc : CallD p k (.builtin "abs") ds d)
    (he : ∀ env, starEach (e :: es) env = (false, eval e env) :: starEach es env := by intro _; rfl) (hst : ∀ env, (starEach (e :: es) env).any (·.1) = false := by intro _; rfl) : Ev p k sc σ (.Call (.Name "abs" np) (e :: es) [] pos) d := ev_callb (by decide +kernel) (by decide +kernel) hk hargs hc he hst
theorem ev_range {np pos : Pos} {e : Expr} {es : List Expr} {ds : List D} {d : D} (hk : sc.names.lookup ("range" : Str) = some .globalImplicit) (hargs : Evs p k sc σ (e :: es) ds) (hc : CallD p k (.type "range") ds d)
    (he : ∀ env, starEach (e :: es) env = (false, eval e env) :: starEach es env := by intro _; rfl) (hst : ∀ env, (starEach (e :: es) env).any (·.1) = false := by intro _; rfl) : Ev p k sc σ (.Call (.Name "range" np) (e :: es) [] pos) d := ev_callt (by decide +kernel) (by decide +kernel) hk hargs hc he hst
theorem ev_intC {np pos : Pos} {e : Expr} {es : List Expr} {ds : List D} {d : D} (hk : sc.names.lookup ("int" : Str) = some .globalImplicit) (hargs : Evs p k sc σ (e :: es) ds) (hc : CallD p k (.type "int") ds d)
    (he : ∀ env, starEach (e :: es) env = (false, eval e env) :: starEach es env := by intro _; rfl) (hst : ∀ env, (starEach (e :: es) env).any (·.1) = false := by intro _; rfl) : Ev p k sc σ (.Call (.Name "int" np) (e :: es) [] pos) d := ev_callt (by decide +kernel) (by decide +kernel) hk hargs hc he hst
theorem g_listA {α : Type} [Inhabited α] {mk : α → D} {l : List α} {i : Int} (h0 : 0 ≤ i) (h : i.toNat < l.length) (hz : l.length < 2 ^ 62) : OpD p k getItem (.lst (l.map mk)) (.int i) (mk (l.getD i.toNat default)) := g_listM h0 (by rw [List.getD_eq_getElem?_getD, List.getElem?_eq_getElem h]; rfl) hz
theorem g_tupA {l : List D} {i : Int} (h0 : 0 ≤ i) (h : i.toNat < l.length) (hz : l.length < 2 ^ 62) : OpD p k getItem (.tup l) (.int i) (l.getD i.toNat default) := g_tup h0 (by rw [List.getD_eq_getElem?_getD, List.getElem?_eq_getElem h]; rfl) hz
theorem ev_listM {α : Type} {mk : α → D} {es : List Expr} {l : List α} {pos : Pos} (h : Evs p k sc σ es (l.map mk)) (hz : l.length ≤ sizeLine) : EvN p k sc σ (.List es pos) (.lst (l.map mk)) := ev_list h (by simpa using hz)
theorem evsI_nil : Evs p k sc σ [] (([] : List Int).map D.int) := evs_nil
theorem evsI_cons {e : Expr} {es : List Expr} {x : Int} {l : List Int} (h : Ev p k sc σ e (D.int x)) (hr : Evs p k sc σ es (l.map D.int)) (he : ∀ env, starEach (e :: es) env = (false, eval e env) :: starEach es env) : Evs p k sc σ (e :: es) ((x :: l).map D.int) := evs_cons h hr he
theorem ev_listI {es : List Expr} {l : List Int} {pos : Pos} (h : Evs p k sc σ es (l.map D.int)) (hz : l.length ≤ sizeLine) : EvN p k sc σ (.List es pos) (.lst (l.map D.int)) := ev_list h (by simpa using hz)
theorem evsS_nil : Evs p k sc σ [] (([] : List Str).map D.str) := evs_nil
theorem evsS_cons {e : Expr} {es : List Expr} {x : Str} {l : List Str} (h : Ev p k sc σ e (D.str x)) (hr : Evs p k sc σ es (l.map D.str)) (he : ∀ env, starEach (e :: es) env = (false, eval e env) :: starEach es env) : Evs p k sc σ (e :: es) ((x :: l).map D.str) := evs_cons h hr he
theorem ev_listS {es : List Expr} {l : List Str} {pos : Pos} (h : Evs p k sc σ es (l.map D.str)) (hz : l.length ≤ sizeLine) : EvN p k sc σ (.List es pos) (.lst (l.map D.str)) := ev_list h (by simpa using hz)
theorem ev_filt {α : Type} {elt iter : Expr} {x : Str} {px : Pos} {ifs : List Expr} {scope : Scope} {pos : Pos} {src : D} {xs : List α} {mk : α → D} (pf : α → Bool) (hi : Ev p k sc σ iter src) (hd : itemsOf src = some (xs.map mk)) (hsz : xs.length ≤ sizeLine)
    (hok : compOk scope sc x = true) (ht : ∀ a ∈ xs, Ets p k (relab scope sc) ((x, mk a) :: σ) ifs (pf a)) (he : ∀ a ∈ xs, pf a = true → Ev p k (relab scope sc) ((x, mk a) :: σ) elt (mk a))
    (hf : ∀ env x, foldedSetIterable iter env x = pure x) : EvN p k sc σ (.ListComp elt [⟨.Name x px, iter, ifs, 0⟩] scope pos) (.lst ((xs.filter pf).map mk)) := ev_comp (f := mk) hi hd hsz hok ht he hf
theorem ev_ifM {α : Type} {mk : α → D} {t a b : Expr} {pos : Pos} {c : Bool} {l₁ l₂ : List α} (ht : Et p k sc σ t c) (ha : Ev p k sc σ a (.lst (l₁.map mk))) (hb : Ev p k sc σ b (.lst (l₂.map mk))) : Ev p k sc σ (.IfExp t a b pos) (.lst ((if c then l₁ else l₂).map mk)) :=
  (ev_ifexp ht (fun _ => ha) (fun _ => hb)).of_eq (by cases c <;> rfl)
theorem range_at {n i : Nat} {e : D} (h : ((List.range n).map fun (i : Nat) => D.int (i : Int))[i]? = some e) : i < n ∧ e = .int (i : Int) := by
  rw [List.getElem?_map, Option.map_eq_some_iff] at h
  obtain ⟨a, h1, h2⟩ := h
  obtain ⟨hlt, h3⟩ := List.getElem?_eq_some_iff.mp h1
  rw [List.length_range] at hlt
  rw [List.getElem_range] at h3
  subst h3
  exact ⟨hlt, h2.symm⟩
theorem ev_revM {α : Type} {mk : α → D} {value : Expr} {p₀ p₁ p₂ pos : Pos} {l : List α} {j : Nat} (hv : Ev p k sc σ value (.lst (l.map mk))) (hz : l.length ≤ sizeLine) : EvN p k sc σ (.Subscript value (.Slice none none (some (.UnaryOp .USub (.Constant (.int 1) j p₀) p₁)) p₂) pos) (.lst (l.reverse.map mk)) :=
  (ev_sliceM hv evo_none evo_none (evo_some (ev_unary ev_int o_neg)) (by decide) hz).of_eq (by rw [slcG_rev])
end
end Mine
end
section
open PySem PySem.Calls PyProof.Rows
set_option maxRecDepth 100000
set_option linter.unusedVariables false
namespace Mine
section
variable {p : Program} {w : World} {k : Nat} {sc : Scope} {σ : List (Str × D)} {ω : List (Str × OC)} {P : Out → Prop}
theorem SOk.again {w : World} {B : Bs} {α : Str → Addr} {env : Env} {g : PH} {s : Shared} {σ' : List (Str × D)} (O : SOk p w B α env σ ω g s) (h : ∀ x d, σ'.lookup x = some d → σ.lookup x = some d) : SOk p w B α env σ' ω g s :=
  { O with e := { O.e with vars := fun x d e => O.e.vars x d (h x d e) } }
/-- if t: x = e -/
theorem wx_ifset {x : Str} {xp p₁ pos : Pos} {t e : Expr} {c : Bool} {d₀ d₁ d : D} (hl : σ.lookup x = some d₀) (ht : Et p k sc σ t c) (he : c = true → Ev p k sc σ e d₁) (hx : isOwn sc x = true) (hw : ω.lookup x = none) (hd : (if c then d₁ else d₀) = d) (hP : P (.nxt ((x, d) :: σ) ω))
    (hsw : ∀ env : Env, env.scope = sc → swapsWith e (some (.Name x xp)) p₁.line env = pure false) : Wx p k sc (.If t [.Assign [.Name x xp] e p₁] [] pos) σ ω P := by
  subst hd
  refine wx_if ht (fun hc => ?_) (fun hc => ?_)
  · subst hc
    exact ws_cons (wx_assign (he rfl) hx hw (ws_nil hP) hsw)
  · subst hc
    refine .mk fun w A env B α g s Q E hA hs O hQ => ?_
    refine wpAny_execs_nil (hQ _ _ s hP ⟨rfl, α, g, O.again fun y d hy => ?_⟩)
    rw [List.lookup_cons] at hy
    cases q : y == x with
    | true => rw [q] at hy; rw [eq_of_beq q, hl]; exact hy
    | false => rw [q] at hy; exact hy

-- a dict of texts
inductive SPairs : List (Option Expr) → List Expr → List (Str × Str) → Prop
  | nil : SPairs [] [] []
  | cons {a b : Str} {i j : Nat} {p q : Pos} {ks : List (Option Expr)} {vs : List Expr} {kvs : List (Str × Str)} : SPairs ks vs kvs → SPairs (some (.Constant (.str a) i p) :: ks) (.Constant (.str b) j q :: vs) ((a, b) :: kvs)
theorem SPairs.length {ks : List (Option Expr)} {vs : List Expr} {kvs : List (Str × Str)} (h : SPairs ks vs kvs) : ks.length = kvs.length ∧ vs.length = kvs.length ∧ ks.all (·.isSome) = true := by
  induction h with
  | nil => exact ⟨rfl, rfl, rfl⟩
  | cons _ ih => exact ⟨by simp [ih.1], by simp [ih.2.1], by simp [ih.2.2]⟩
noncomputable def tabKV (kvs : List (Str × Str)) (ts : List Tok) : List (Str × Value) := (kvs.zip ts).map fun x => (x.1.1, .str x.1.2 x.2)
theorem wp_spairs {A : Around} {env : Env} {pos : Pos} {E : Value → Shared → Prop} {ks : List (Option Expr)} {vs : List Expr} {kvs : List (Str × Str)} (h : SPairs ks vs kvs) : ∀ (s : Shared) (Q : List (Value × Value) → Shared → Prop),
    (∀ r ts tk, ts.length = kvs.length → s.toks ≤ tk → Carries (PySem.strKind p w) r (tabKV kvs ts) → Q r { s with toks := tk }) → wpAny (model p w) A (evalPairs (pairTrees ks vs env pos)) Q E s := by
  induction h with
  | nil => exact fun s Q hQ => pairTrees_nil_walk (hQ [] [] s.toks rfl (Nat.le_refl _) trivial)
  | @cons a b i j p' q' ks vs kvs _ ih =>
    intro s Q hQ
    refine pairTrees_cons_walk (Calls.Constant_str (Calls.Constant_str (ih _ _ fun r ts tk hl hle hc => ?_)))
    refine hQ _ ((s.toks + 1) :: ts) tk (by simp [hl]) (Nat.le_trans (Nat.le_add_right s.toks 2) hle) ?_
    exact ⟨by simp [PySem.strKind, Value.isStrOf], rfl, hc⟩
theorem tabKV_keys : ∀ {kvs : List (Str × Str)} {ts : List Tok}, ts.length = kvs.length → (tabKV kvs ts).map (·.1) = kvs.map (·.1)
  | [], [], _ => rfl
  | [], t :: ts, h => by simp at h
  | a :: kvs, [], h => by simp at h
  | a :: kvs, t :: ts, h => by
    have := tabKV_keys (kvs := kvs) (ts := ts) (by simpa using h)
    unfold tabKV at this ⊢
    simp [this]
theorem ev_tab {ks : List (Option Expr)} {vs : List Expr} {pos : Pos} {kvs : List (Str × Str)} (h : SPairs ks vs kvs) (h0 : ks ≠ []) (hl : kvs.length ≤ 15) (hn : (kvs.map (·.1)).Nodup) : EvN p k sc σ (.Dict ks vs pos) (.tab kvs) := .mk fun w A env g s Q E hA hs O hQ => by
  obtain ⟨l1, l2, l3⟩ := h.length
  refine wpAny_Dict_walk (knd := PySem.strKind p w) l3 (l1.trans l2.symm) h0 (by rw [l1]; exact hl) ?_
  refine wp_spairs h _ _ fun r ts tk htl hle hc => ?_
  refine ⟨tabKV kvs ts, hc, ?_, fun h' hd hsb => ?_⟩
  · exact ⟨_, #[], 0, Heap.get?_push_size _ rfl, ⟨rfl, rfl, rfl⟩, rfl, (by intro e he; simp at he), .nil, .nil⟩
  · rw [merged_nil_of_nodup _ (by rw [tabKV_keys htl]; exact hn)] at hd
    obtain ⟨o, ho, hdo⟩ := Heap.dictOf_iff.mp hd
    have keep : ∀ b o', s.heap.get? b = some o' → h'.get? b = some o' := fun b o' e => hsb.extBut b o' (Nat.ne_of_lt (Heap.lt_size e)) (Heap.get?_push_of_some _ e)
    have X := Stp.new (g := g) (s := s) (h' := h') (t := tk + r.length) O.sub (get?_size _) ho keep (Nat.le_trans hle (Nat.le_add_right _ _))
    exact hQ _ _ _ (get?_size _) X (Rp.tab_iff.mpr ⟨_, o, ts, rfl, PH.put_self _ _ _, hdo, htl.symm⟩)
theorem ev_dict0 {pos : Pos} : EvN p k sc σ (.Dict [] [] pos) (.dct [] []) := .mk fun w A env g s Q E hA hs O hQ => by
  refine wpAny_Dict_empty ?_
  have X := Stp.new (g := g) (s := s) (h' := s.heap.push { cls := .type "dict", data := .dict #[] }) (t := s.toks) O.sub (get?_size _) (Heap.get?_push_size _ rfl) (fun b o e => Heap.get?_push_of_some _ e) (Nat.le_refl _)
  refine hQ _ _ _ (get?_size _) X (Rp.dct_iff.mpr ⟨_, _, [], rfl, PH.put_self _ _ _, ?_, ⟨#[], 0, ⟨rfl, rfl, rfl⟩, rfl, (by intro e he; simp at he), .nil, .nil⟩, rfl, .nil _⟩)
  obtain ⟨b, mg, mb, hb, G⟩ := O.gd
  obtain ⟨o, _, _, ho, _⟩ := G.glob
  have : mainGlobals < s.heap.objs.size := Heap.lt_size (O.sub _ _ (hb _ _ ho))
  have h3 : (3 : Nat) < s.heap.objs.size := this
  intro q
  have h1 : s.heap.objs.size = 1 := q
  omega

-- pops
/-- o.pop(i) for each, as a list -/
noncomputable def popsL {α : Type} [Inhabited α] : List α → List Nat → List α
  | _, [] => []
  | l, i :: is => l.getD i default :: popsL (l.eraseIdx i) is
noncomputable def popsOk {α : Type} : List α → List Nat → Prop
  | _, [] => True
  | l, i :: is => i < l.length ∧ popsOk (l.eraseIdx i) is
inductive Pops (p : Program) (k : Nat) (sc : Scope) (σ : List (Str × D)) (o : Str) : List Expr → List Nat → Prop
  | nil : Pops p k sc σ o [] []
  | cons {np ap pos : Pos} {e : Expr} {es : List Expr} {i : Nat} {is : List Nat} : (∃ j, j = (i : Int) ∧ Ev p k sc σ e (.int j)) → (∀ env, starEach [e] env = [(false, eval e env)]) → (ap.endLine == pos.line) = true →
    (∀ env, starEach (.Call (.Attribute (.Name o np) "pop" ap) [e] [] pos :: es) env = (false, eval (.Call (.Attribute (.Name o np) "pop" ap) [e] [] pos) env) :: starEach es env) → Pops p k sc σ o es is → Pops p k sc σ o (.Call (.Attribute (.Name o np) "pop" ap) [e] [] pos :: es) (i :: is)
theorem fits (i : Nat) (j : Int) (hj : j = (i : Int)) (h1 : i < 2 ^ 24) : Builtin.List.listFitsIndex j = true := by
  unfold Builtin.List.listFitsIndex
  rw [Bool.and_eq_true, decide_eq_true_iff, decide_eq_true_iff]
  constructor <;> omega
theorem wp_pops {A : Around} {B : Bs} {α : Str → Addr} {env : Env} {E : Value → Shared → Prop} {o : Str} {pos : Pos} (hA : Rm k A) (hs : env.scope = sc) (hv : isVar sc o = true) {es : List Expr} {is : List Nat} (h : Pops p k sc σ o es is) :
    ∀ (l : List Str) (ω : List (Str × OC)) (g : PH) (s : Shared) (Q : List Value → Shared → Prop), SOk p w B α env σ ω g s → ω.lookup o = some (.lst (l.map D.str)) → popsOk l is → l.length ≤ sizeLine →
    (∀ vs ω' g' s', SOk p w B α env σ ω' g' s' → RpL p w g' ((popsL l is).map D.str) vs → Q vs s') → wpAny (model p w) A (spliced (backTo pos (starEach es env))) Q E s := by
  induction h with
  | nil => exact fun l ω g s Q O ho _ _ hQ => PyProof.Rows.spliced_none (hQ [] ω g s O (.nil g))
  | @cons np ap pos' e es i is he hst hline hsp _ ih =>
    intro l ω g s Q O ho hok hz hQ
    obtain ⟨j, hj, he⟩ := he
    refine PyProof.Rows.spliced_more ?_ (hsp env)
    refine Call_method1 rfl (hst env) hline (wp_ownName O ho (hs ▸ hv) ?_)
    obtain ⟨n, vs, hob, hr⟩ := O.lst ho
    refine ⟨"list", _, F.plainAttrs_list, F.slot_list_pop, F.type_list_pop, ⟨_, hob, rfl⟩, (fun a e => by cases e; exact ⟨_, hob, rfl⟩), ?_⟩
    refine Calls.callWith_builtin rfl (Calls.evalArgs_plain (Calls.spliced_cons (he.go w A env g s _ E hA hs O.e fun v g₁ s₁ x₁ r₁ => Calls.spliced_nil ?_)))
    have O₁ := O.step x₁
    obtain ⟨n, vs, hob, hr⟩ := O₁.lst ho
    rw [Rp.int_iff] at r₁
    obtain ⟨t, rfl⟩ := r₁
    have hlen := hr.length
    rw [List.length_map] at hlen
    have hi : i < vs.length := by rw [hlen]; exact hok.1
    have hz2 : l.length ≤ 2 ^ 24 := hz
    obtain ⟨x, hx, hxs⟩ : ∃ x, l[i]? = some x ∧ Rp p w g₁ (.str x) vs[i] := by
      have : l[i]? = some (l[i]'hok.1) := List.getElem?_eq_getElem hok.1
      obtain ⟨v, hv1, hv2⟩ := hr.get (by rw [List.getElem?_map, this]; rfl : (l.map D.str)[i]? = some (.str (l[i]'hok.1)))
      rw [List.getElem?_eq_getElem hi] at hv1
      cases hv1
      exact ⟨_, this, hv2⟩
    have hz3 : i < 2 ^ 24 := by omega
    have f2 : seqIndex? j vs.toArray.size = some i := by
      rw [List.size_toArray, seqIndex_of (by omega) (by omega), hj]; simp
    have f3 : vs.toArray[i]? = some vs[i] := by rw [List.getElem?_toArray]; exact List.getElem?_eq_getElem hi
    have f4 : vs.toArray.size ≤ sizeLine := by rw [List.size_toArray, hlen]; exact hz
    generalize hy : vs[i] = y at *
    have hm := MeetsSeq.list_pop_at (α o) vs.toArray n j t i y (fits i j hj hz3) f2 f3 f4
    refine call_meets F.slot_list_pop ⟨_, hob, rfl⟩ F.entry_list_pop (F.args_list_pop_2 _ _) hm ⟨hob, ?_⟩
    · have up := IsL.update (l := α o) (items := vs.toArray) (n := n) hob fun xs => xs.eraseIdxIfInBounds i
      have e1 : (vs.toArray.eraseIdxIfInBounds i) = (vs.eraseIdx i).toArray := by
        rw [Array.eraseIdxIfInBounds, dif_pos (by simp [hi])]
        simp
      rw [e1] at up
      have hr' : RpL p w g₁ ((l.eraseIdx i).map D.str) (vs.eraseIdx i) := by
        refine RpL.of_get (by simp [List.length_eraseIdx, hlen]) fun m d v hd hv' => ?_
        rw [List.getElem?_map, List.getElem?_eraseIdx] at hd
        rw [List.getElem?_eraseIdx] at hv'
        by_cases q : m < i
        · rw [if_pos q] at hd hv'
          obtain ⟨u, hu, rr⟩ := hr.get (by rw [List.getElem?_map]; exact hd)
          rw [hu] at hv'; cases hv'; exact rr
        · rw [if_neg q] at hd hv'
          obtain ⟨u, hu, rr⟩ := hr.get (by rw [List.getElem?_map]; exact hd)
          rw [hu] at hv'; cases hv'; exact rr
      have oa : OwnAt p w g₁ (s₁.heap.update (α o) (Obj.mapSeq fun xs => xs.eraseIdxIfInBounds i)) (α o) (.lst ((l.eraseIdx i).map D.str)) := ⟨_, vs.eraseIdx i, up, hr'⟩
      have sb : Heap.SameBut (α o) s₁.heap (s₁.heap.update (α o) (Obj.mapSeq fun xs => xs.eraseIdxIfInBounds i)) := Heap.SameBut.update ..
      have O₂ := O₁.mut (tk := s₁.toks) ho sb (Nat.le_refl s₁.toks) oa
      refine ih (l.eraseIdx i) _ g₁ _ _ O₂ (by rw [lookup_updO, if_pos rfl, ho]; rfl) hok.2 (Nat.le_trans (List.length_eraseIdx_le _ _) hz) fun vs' ω' g' s' O' r' => ?_
      refine hQ _ ω' g' s' O' ?_
      have e2 : l.getD i default = x := by rw [List.getD_eq_getElem?_getD, hx]; rfl
      rw [popsL, e2, List.map_cons]
      rw [Rp.str_iff] at hxs
      exact RpL.cons (Rp.str_iff.mpr hxs) r'
theorem wx_retPops {o : Str} {es : List Expr} {is : List Nat} {l : List Str} {lp pos : Pos} (h : Pops p k sc σ o es is) (hv : isVar sc o = true) (ho : ω.lookup o = some (.lst (l.map D.str))) (hok : popsOk l is) (hz : l.length ≤ sizeLine) (hz2 : (popsL l is).length ≤ sizeLine) (hP : P (.ret (.lst ((popsL l is).map D.str)))) :
    Wx p k sc (.Return (some (.List es lp)) pos) σ ω P := .mk fun w A env B α g s Q E hA hs O hQ => by
  refine wpAny_Return_some (PyProof.Rows.List_ (wp_pops hA hs hv h l ω g s _ O ho hok hz fun vs ω' g' s' O' r => ?_))
  refine wpAny_newList ?_ (by rw [r.length, List.length_map]; exact hz2)
  obtain ⟨y, e, le⟩ := put_new (w := w) (o := lstO vs 0) (Stp.refl O'.e.sub) rfl
  exact hQ _ _ _ hP ⟨_, _, rfl, .lst e (r.mono le), (O'.step y).ends⟩
/-- its place is a number's own -/
theorem pops_at {o : Str} {np ap pos : Pos} {e : Expr} {es : List Expr} {j : Int} {is : List Nat} (h : Ev p k sc σ e (.int j)) (h0 : 0 ≤ j) (h1 : ∀ env, starEach [e] env = [(false, eval e env)]) (h2 : (ap.endLine == pos.line) = true)
    (h3 : ∀ env, starEach (.Call (.Attribute (.Name o np) "pop" ap) [e] [] pos :: es) env = (false, eval (.Call (.Attribute (.Name o np) "pop" ap) [e] [] pos) env) :: starEach es env) (hr : Pops p k sc σ o es is) : Pops p k sc σ o (.Call (.Attribute (.Name o np) "pop" ap) [e] [] pos :: es) (j.toNat :: is) :=
  .cons ⟨j, by omega, h⟩ h1 h2 h3 hr
end
end Mine
end
section
open PySem PySem.Calls PyProof.Rows
open Builtin Builtin.Str
set_option maxRecDepth 100000
set_option linter.unusedVariables false
namespace Mine
/-- a call that makes a new thing -/
structure CallN (p : Program) (k : Nat) (f : Value) (ds : List D) (d : D) : Prop where
  go : ∀ (w : World) (A : Around) (g : PH) (s : Shared) (vs : List Value) (Q : Value → Shared → Prop) (E : Value → Shared → Prop), Rm k A → Sub g s.heap → Gd p w g → 1 ≤ s.toks → RpL p w g ds vs →
    (∀ a g' s', s.heap.get? a = none → Stp g g' s s' → Rp p w g' d (.ref a) → Q (.ref a) s') → wpAny (model p w) A (call f vs) Q E s
section
variable {p : Program} {k : Nat} {sc : Scope} {σ : List (Str × D)} {ω : List (Str × OC)} {P : Out → Prop}
theorem cn_split {x y : Str} (hy : (y.length == 0) = false) (hsz : x.length ≤ sizeLine) (hsz2 : (partsBetween x (occurrences x y 0 x.length (x.length + 1)) y.length).length ≤ sizeLine) : CallN p k (.builtin "str.split") [.str x, .str y] (.lst ((Txt.split x y).map D.str)) := .mk fun w A g s vs Q E hA S G hT r hQ => by
  obtain ⟨v, u, rfl, r1, r2⟩ := r.two_inv
  rw [Rp.str_iff] at r1 r2
  obtain ⟨t, rfl⟩ := r1
  obtain ⟨z, rfl⟩ := r2
  refine wpAny_with_toks (n := s.toks) (Nat.le_refl _) (call_split hy hsz hsz2 fun l tk e hle => ?_)
  have y := Stp.new (t := tk) (o := lstO (strValues l) 0) S (get?_size _) (Heap.get?_push_size _ rfl) (fun b o e => Heap.get?_push_of_some _ e) hle
  exact hQ _ _ _ (get?_size _) y (.lst (PH.put_self _ _ _) (e ▸ rp_strs l))
theorem ev_methN {o : Expr} {name : Str} {ap pos : Pos} {e : Expr} {es : List Expr} {T id : String} {a d : D} {ds : List D} (ho : Ev p k sc σ o a) (hT : mthTy a = some T) (pa : PlainAttrs T) (slot : Slot T name id) (hty : typeOf (.builtin id) = pure (.type "method_descriptor"))
    (hargs : Evs p k sc σ (e :: es) ds) (hc : CallN p k (.builtin id) (a :: ds) d)
    (hbase : ∀ env, attributeBase o name env (eval o env) = eval o env := by intro _; rfl) (he : ∀ env, starEach (e :: es) env = (false, eval e env) :: starEach es env := by intro _; rfl) (hst : ∀ env, (starEach (e :: es) env).any (·.1) = false := by intro _; rfl)
    (hfew : ∀ env, ((backTo pos (starEach (e :: es) env)).all (fun x => !x.1) && (backToKw pos (keywordEach [] env)).all (fun x => x.1.isSome) && decide ((e :: es).length + ([] : List Keyword).length + (if ([] : List Keyword).isEmpty then 0 else 1) < 30)) = true := by intro _; rfl)
    (hline : (ap.endLine == pos.line) = true := by rfl) : EvN p k sc σ (.Call (.Attribute o name ap) (e :: es) [] pos) d := .mk fun w A env g s Q E hA hs O hQ => by
  refine wpAny_Call_method_lateS (hbase env) (hfew env) hline (ho.go w A env g s _ E hA hs O fun v g₁ s₁ x₁ r₁ => ?_)
  obtain ⟨hTi, hdd⟩ := mthTy_is (s := s₁) hT r₁ x₁.sub
  refine ⟨T, id, pa, slot, hty, hTi, hdd, ?_⟩
  refine Calls.callWith_builtin (noStar (hst env)) (wp_args hargs he hA hs (O.step x₁) fun vs g₂ s₂ x₂ r₂ => ?_)
  exact hc.go w A g₂ s₂ (v :: vs) Q E hA x₂.sub (O.gd.mono (x₁.le.trans x₂.le)) (Nat.le_trans O.tok (x₁.trans x₂).tks) (.cons (r₁.mono x₂.le) r₂) fun a g' s' hn y rr => hQ a g' s' (none_of_keep (x₁.trans x₂).keep hn) ((x₁.trans x₂).trans y) rr
theorem wx_then {st : Stmt} {F F' : List (Str × D) → List (Str × OC) → Prop} (h : Wx p k sc st σ ω (andThen F' P)) (hF : ∀ σ' ω', F' σ' ω' → F σ' ω') : Wx p k sc st σ ω (andThen F P) := .mk fun w A env B α g s Q E hA hs O hQ =>
  h.go w A env B α g s Q E hA hs O fun o f s' ho hm => hQ o f s' (by
    cases o with
    | ret d => exact ho
    | nxt σ' ω' => exact hF σ' ω' ho) hm
theorem g_last {α : Type} [Inhabited α] {mk : α → D} {l : List α} (h : 0 < l.length) (hz : l.length < 2 ^ 62) : OpD p k getItem (.lst (l.map mk)) (.int (-1)) (mk (l.getD (l.length - 1) default)) := g_list (by
    unfold itemAt
    rw [if_neg (by decide), List.length_map, if_pos (by omega), List.getElem?_map]
    have e : ((-1 : Int) + (l.length : Int)).toNat = l.length - 1 := by omega
    rw [e, List.getD_eq_getElem?_getD, List.getElem?_eq_getElem (by omega)]; rfl) (by simpa using hz)
theorem et_str {e : Expr} {x : Str} (h : Ev p k sc σ e (.str x)) (hz : x.length ≤ sizeLine) (he : ∀ env whole, isTrue e env whole = (do let v ← whole; standAt e.pos; holding [v] (truthy v))) : Et p k sc σ e (!(x.length == 0)) := et_val h (by simp only [truD]; rw [if_pos hz]) he
theorem et_bool {e : Expr} {b : Bool} (h : Ev p k sc σ e (.bool b)) (he : ∀ env whole, isTrue e env whole = (do let v ← whole; standAt e.pos; holding [v] (truthy v))) : Et p k sc σ e b := et_val h rfl he
theorem s_add {x y : Str} (hz : x.length + y.length ≤ sizeLine) : OpD p k (binaryOp .Add) (.str x) (.str y) (.str (x ++ y)) := op_strs rfl rfl fun w A g s i j Q E _ hT h => SB.add (fun t' kk => h _ kk (.str t')) hz
theorem evsB_nil : Evs p k sc σ [] (([] : List Bool).map D.bool) := evs_nil
theorem evsB_cons {e : Expr} {es : List Expr} {x : Bool} {l : List Bool} (h : Ev p k sc σ e (.bool x)) (hr : Evs p k sc σ es (l.map D.bool)) (he : ∀ env, starEach (e :: es) env = (false, eval e env) :: starEach es env) : Evs p k sc σ (e :: es) ((x :: l).map D.bool) := evs_cons h hr he
theorem ev_listB {es : List Expr} {l : List Bool} {pos : Pos} (h : Evs p k sc σ es (l.map D.bool)) (hz : l.length ≤ sizeLine) : EvN p k sc σ (.List es pos) (.lst (l.map D.bool)) := ev_list h (by simpa using hz)
/-- list.index -/
theorem ev_index {o e : Expr} {ap pos : Pos} {ns : List Int} {x : Int} (ho : Ev p k sc σ o (.lst (ns.map D.int))) (he : Ev p k sc σ e (.int x)) (hx : x ∈ ns) (hz : ns.length < 2 ^ 62) (h1 : ∀ env, starEach [e] env = [(false, eval e env)]) (h2 : (ap.endLine == pos.line) = true)
    (hbase : ∀ env, attributeBase o "index" env (eval o env) = eval o env) : Ev p k sc σ (.Call (.Attribute o "index" ap) [e] [] pos) (.int (ns.idxOf x : Int)) := by
  have hl : ns.idxOf x < ns.length := List.idxOf_lt_length_of_mem hx
  refine ev_meth (T := "list") (id := "list.index") ho rfl F.plainAttrs_list F.slot_list_index F.type_list_index (ds := [.int x]) (evs_cons he evs_nil (by intro env; rw [h1 env]; rfl)) (c_index hl (List.getElem_idxOf hl) (fun m hm hmj q => ?_) hz) hbase (by intro env; rw [h1 env]; rfl) (by intro env; rw [h1 env]; rfl) (by intro env; rw [h1 env]; rfl) h2
  have := List.not_of_lt_findIdx (p := (· == x)) hmj
  simp [q] at this
end
end Mine
end
section
open PySem PySem.Calls PyProof.Rows PySem.Spec
set_option maxRecDepth 100000
set_option linter.unusedVariables false
namespace Mine
section
variable {p : Program} {w : World} {A : Around} {E : Value → Shared → Prop} {s : Shared}
theorem collect_rng {R : List Value → Shared → Prop} {r : Addr} {n : Nat} {t u v : Tok} (hh : A.handled = none) (hr : IsRange s.heap r 0 n 1 t u v) (hn : n ≤ 1000)
    (h : ∀ (h' : Heap) (tk : Nat) (acc : Array Value), (∀ b o, s.heap.get? b = some o → h'.get? b = some o) → ItemsOf (fun i v => ∃ t, v = .int (0 + i * 1) t) acc n → R acc.toList { s with heap := h', toks := tk }) :
    wpAny (model p w) A (collect (.ref r)) R E s := by
  unfold collect
  refine wpAny_bind (wpAny_runValue (codeAny_builtin entry_proto_collect' ?_))
  rw [Around.under_plainId PySem.F.plain_proto_collect _]
  show wpAny _ A.in1 (newList [] >>= fun l => again (.builtin "list.__iadd__" ⟨[l, .ref r], []⟩)) _ _ s
  refine wpAny_bind (wpAny_newObj_type ?_)
  refine wpAny_pure ⟨plainId_quiet PySem.F.plain_list_iadd _, codeAny_builtin entry_list_iadd' ?_⟩
  rw [Around.under_plainId PySem.F.plain_list_iadd _]
  have hS₁ : (s.heap.push { cls := .type "list", data := .seq ([] : List Value).toArray }).get? s.heap.objs.size = some { cls := .type "list", data := .seq #[] } := Heap.get?_push_size _ rfl
  show wpAny _ A.in1 (Builtin.List.listExtendWith (.ref s.heap.objs.size) (.ref r) (.ref s.heap.objs.size)) _ _ _
  have hsz : Builtin.Range.rangeSize 0 (n : Int) 1 = n := by rw [rangeSize_one]; split <;> omega
  have key := wpAny_extend_range (prog := p) (w := w) (A := A) (s := { s with heap := s.heap.push { cls := .type "list", data := .seq ([] : List Value).toArray } })
    (R := fun (q : Result) (s' : Shared) => ∃ (h' : Heap) (tk : Nat) (acc' : Array Value) (c' : Nat), q = .ok (.ret (.ref s.heap.objs.size)) ∧ s' = { s with heap := h', toks := tk } ∧
      (∀ b o, s.heap.get? b = some o → h'.get? b = some o) ∧ h'.get? s.heap.objs.size = some { cls := .type "list", dict := none, data := .seq acc' c', slots := #[] } ∧ ItemsOf (fun i v => ∃ t, v = .int (0 + i * 1) t) acc' n)
    hh (Heap.get?_push_of_some _ hr) (small_one (by omega) (by omega) (by omega) (by omega)) hsz (by omega) s.heap.objs.size (.ref s.heap.objs.size) 0 hS₁
    (fun h' tk acc' c' hk hS' hacc => ⟨h', tk, acc', c', rfl, rfl, fun b o e => hk b o (Nat.ne_of_lt (Heap.lt_size e)) (Heap.get?_push_of_some _ e), hS', hacc⟩)
  refine wpAny_mono key (fun fin s' x => ?_) fun e s' x => ?_
  · cases fin with
    | done f =>
      obtain ⟨h', tk, acc', c', e, rfl, hk, hS', hacc⟩ := x
      cases e
      show wpAny _ A (load s.heap.objs.size >>= _) _ _ _
      refine wpAny_bind (wpAny_load hS' ?_)
      exact wpAny_pure (h h' tk acc' hk hacc)
    | again c₁ =>
      refine ⟨x.1, codeAny_mono x.2 fun q s₂ y => ?_⟩
      obtain ⟨h', tk, acc', c', rfl, rfl, hk, hS', hacc⟩ := y
      show wpAny _ A (load s.heap.objs.size >>= _) _ _ _
      refine wpAny_bind (wpAny_load hS' ?_)
      exact wpAny_pure (h h' tk acc' hk hacc)
  · obtain ⟨_, _, _, _, e', _⟩ := x
    cases e'

/-- all that the heap holds but L -/
noncomputable def newsOf (h : Heap) (L : Addr) : List (Addr × Obj) := (List.range h.objs.size).filterMap fun a => if a = L then none else (h.get? a).map fun o => (a, o)
theorem mem_newsOf {h : Heap} {L a : Addr} {o : Obj} : (a, o) ∈ newsOf h L ↔ a ≠ L ∧ h.get? a = some o := by
  unfold newsOf
  rw [List.mem_filterMap]
  constructor
  · rintro ⟨b, hb, e⟩
    split at e
    · cases e
    · rename_i hne
      rw [Option.map_eq_some_iff] at e
      obtain ⟨o', h1, h2⟩ := e
      cases h2
      exact ⟨hne, h1⟩
  · rintro ⟨hne, ho⟩
    exact ⟨a, List.mem_range.mpr (Heap.lt_size ho), by rw [if_neg hne, ho]; rfl⟩
noncomputable def nil₀ (h : Heap) : Heap := { h with objs := #[] }
theorem nil₀_none (h : Heap) (a : Addr) : (nil₀ h).get? a = none := by
  cases e : (nil₀ h).get? a with
  | none => rfl
  | some o => exact absurd (Heap.lt_size e) (Nat.not_lt_zero _)

/-- sorted once over -/
theorem sorted_unique : ∀ {l ps : List (Int × Value)}, ps.Perm l → l.Pairwise (fun p q => p.1 < q.1) → ps.Pairwise (fun p q => p.1 ≤ q.1) → ps = l
  | [], ps, hp, _, _ => List.Perm.eq_nil hp
  | a :: l, ps, hp, hl, hs => by
    cases ps with
    | nil => exact absurd hp.symm.eq_nil (by simp)
    | cons b ps =>
      obtain ⟨hl1, hl2⟩ := List.pairwise_cons.mp hl
      obtain ⟨hs1, hs2⟩ := List.pairwise_cons.mp hs
      have hb : b ∈ a :: l := hp.mem_iff.mp (.head _)
      have ha : a ∈ b :: ps := hp.mem_iff.mpr (.head _)
      have hab : b = a := by
        rcases List.mem_cons.mp hb with e | hb
        · exact e
        · have h1 := hl1 b hb
          rcases List.mem_cons.mp ha with e | ha
          · exact e.symm
          · have h2 := hs1 a ha
            omega
      subst hab
      rw [sorted_unique hp.cons_inv hl2 hs2]

section
variable {prog : Program} {h₀ : Heap} {L : Addr} {m : Str → Option Value} {news : List (Addr × Obj)} {a kS : Addr} {b : Bool} {vs : List Value} {kz : List Int} {keys : Array Value} {e e1 n₀ : Nat} {Pf : PySem.Fin → Shared → Prop}
/-- the keys, one after another; as in the kit, with the count of things made kept in sight -/
theorem keys_made {f : Value} (F : Fr h₀ L s.heap m) (N : News h₀ L s.heap (news ++ [(kS, seqObj "list" #[] 0), (a, seqObj "list" #[] e1)])) (hka : kS ≠ a) (hnk : ∀ p ∈ news, p.1 ≠ kS) (hna : ∀ p ∈ news, p.1 ≠ a) (htk : n₀ ≤ s.toks)
    (hlen : kz.length = vs.length) (h64 : vs.length < 64)
    (turn : ∀ (i : Nat) (v : Value) (k : Int), vs[i]? = some v → kz[i]? = some k → ∀ (h : Heap) (tk : Nat) (own : List (Addr × Obj)), n₀ ≤ tk → Fr h₀ L h m → News h₀ L h (news ++ own) →
      wpAny (model prog w) A (call f [v]) (fun v s₂ => n₀ ≤ s₂.toks ∧ KskEnd h₀ L m (news ++ own) k { s with heap := h, toks := tk } v s₂) (fun _ _ => False) { s with heap := h, toks := tk })
    (h : ∀ h' tk out c, Fr h₀ L h' m → News h₀ L h' ((a, seqObj "list" out c) :: news) → KskOut b kz vs out.toList → Pf (.done (.ret .none)) { s with heap := h', toks := tk }) :
    wpAny (model prog w) A (ksk_rest a f b vs.toArray e1 (.ref kS)) Pf E s := by
  unfold ksk_rest
  refine wpAny_bind (wpAny_rule ?_)
  first
    | rw [List.forIn_toArray]
    | (rw [← Array.forIn_toList]; simp only [List.toList_toArray])
    | rw [← Array.forIn_toList]
  refine wpAny_bind (ksk_fold (fun i s' => ∃ h' tk kA e, s' = { s with heap := h', toks := tk } ∧ n₀ ≤ tk ∧ Fr h₀ L h' m ∧ News h₀ L h' (news ++ [(kS, seqObj "list" kA e), (a, seqObj "list" #[] e1)]) ∧ IntsAre kA.toList (kz.take i)) vs 0 s
    ⟨s.heap, s.toks, #[], 0, rfl, htk, F, N, by simpa using IntsAre.nil⟩ ?step ?done)
  case step =>
    rintro j x s' hx ⟨h', tk, kA, e, rfl, ht', F', N', hk⟩
    simp only [Nat.zero_add] at hk ⊢
    have hj : j < vs.length := (List.getElem?_eq_some_iff.mp hx).1
    obtain ⟨k, hkj⟩ : ∃ k, kz[j]? = some k := ⟨_, List.getElem?_eq_getElem (by omega)⟩
    have hz : kA.size ≤ vs.length := by
      have h1 := hk.length
      rw [Array.length_toList, List.length_take] at h1
      omega
    refine wpAny_bind (wpAny_attempt (wpAny_mono (turn j x k hx hkj h' tk _ ht' F' N') (fun v s'' he => ?_) fun _ _ hF => hF.elim))
    obtain ⟨ht2, g, tk2, t2, rfl, rfl, F2, N2⟩ := he
    try dsimp only
    have nk := N2 (kS, seqObj "list" kA e) (List.mem_append_right _ (.head _))
    have na := N2 (a, seqObj "list" #[] e1) (List.mem_append_right _ (.tail _ (.head _)))
    have s1 := Heap.SameBut.update g kS (Obj.mapSeq (·.push (.int k t2)))
    obtain ⟨c2, hc2⟩ : ∃ c2, (g.update kS (Obj.mapSeq (·.push (.int k t2)))).get? kS = some (seqObj "list" (kA.push (.int k t2)) c2) := ⟨_, get?_update_seq nk.1 (·.push (.int k t2))⟩
    have ek : kz.take (j + 1) = kz.take j ++ [k] := by rw [List.take_add_one, hkj]; simp
    have ea : (kA.push (Value.int k t2)).toList = kA.toList ++ [Value.int k t2] := by simp
    refine wpAny_bind (listUpdate_at nk.1 rfl ?_ (by rw [sizeLine_eq]; omega) (Nat.le_trans (Nat.le_of_eq (Array.size_push ..)) (by rw [sizeLine_eq]; omega)))
    refine wpAny_pure ⟨rfl, _, _, kA.push (.int k t2), c2, rfl, ht2, ksk_fr F2 s1 nk.2.1 nk.2.2, fun p hp => ?_, by rw [ea, ek]; exact ksk_snoc hk⟩
    rcases List.mem_append.mp hp with hp | hp
    · exact ksk_news (fun q hq => N2 q (List.mem_append_left _ hq)) s1 hnk p hp
    · rcases List.mem_cons.mp hp with rfl | hp
      · exact ⟨hc2, nk.2⟩
      · rw [List.mem_singleton.mp hp]
        exact ⟨(s1.2 a hka.symm).trans na.1, na.2⟩
  case done =>
    rintro s' ⟨h', tk, kA, e, rfl, _, F', N', hk⟩
    have hk' : IntsAre kA.toList kz := by
      have e3 : kz.take (0 + vs.length) = kz := List.take_of_length_le (by omega)
      rw [e3] at hk
      exact hk
    have nk := N' (kS, seqObj "list" kA e) (List.mem_append_right _ (.head _))
    try dsimp only
    refine wpAny_bind (listItems_at nk.1 rfl ?_)
    exact ksk_end_ F' N' hka hnk hna hk' hlen h64 fun h3 tk3 out c F3 N3 k3 => h h3 tk3 out c F3 N3 k3

theorem sort_keys {f : Value} {n : Nat} (F : Fr h₀ L s.heap m) (N : News h₀ L s.heap news) (ho : s.heap.get? a = some (seqObj "list" vs.toArray n)) (haL : a ≠ L) (ha0 : h₀.get? a = none) (hna : ∀ p ∈ news, p.1 ≠ a) (htk : n₀ ≤ s.toks)
    (hlen : kz.length = vs.length) (h64 : vs.length < 64)
    (turn : ∀ (i : Nat) (v : Value) (k : Int), vs[i]? = some v → kz[i]? = some k → ∀ (h : Heap) (tk : Nat) (own : List (Addr × Obj)), n₀ ≤ tk → Fr h₀ L h m → News h₀ L h (news ++ own) →
      wpAny (model prog w) A (call f [v]) (fun v s₂ => n₀ ≤ s₂.toks ∧ KskEnd h₀ L m (news ++ own) k { s with heap := h, toks := tk } v s₂) (fun _ _ => False) { s with heap := h, toks := tk })
    (h : ∀ h' tk out c, Fr h₀ L h' m → News h₀ L h' ((a, seqObj "list" out c) :: news) → KskOut b kz vs out.toList → Pf (.done (.ret .none)) { s with heap := h', toks := tk }) :
    wpAny (model prog w) A (ksk_tree a f b) Pf E s := by
  have ha : a < s.heap.objs.size := Heap.lt_size ho
  have s1 := Heap.SameBut.update s.heap a (Obj.mapSeq fun _ => (#[] : Array Value))
  obtain ⟨e1, ho1⟩ : ∃ e1, (s.heap.update a (Obj.mapSeq fun _ => (#[] : Array Value))).get? a = some (seqObj "list" #[] e1) := ⟨_, get?_update_seq ho fun _ => #[]⟩
  have F1 := ksk_fr F s1 haL ha0
  have N1 := ksk_news N s1 hna
  have hkS : ((s.heap.update a (Obj.mapSeq fun _ => (#[] : Array Value))).push (seqObj "tuple" vs.toArray 0)).objs.size = s.heap.objs.size + 1 := by rw [size_push', Heap.size_update]
  have hLk : L < ((s.heap.update a (Obj.mapSeq fun _ => (#[] : Array Value))).push (seqObj "tuple" vs.toArray 0)).objs.size := (F1.push _).ns.lt
  unfold ksk_tree
  refine wpAny_bind (listItems_at ho rfl ?_)
  refine wpAny_bind (listUpdate_at ho rfl ?_ (by rw [List.size_toArray, sizeLine_eq]; omega) (Nat.zero_le _))
  refine wpAny_bind (seqEpoch_at ho1 rfl ?_)
  refine wpAny_bind (wpAny_newTuple ?_ (by show vs.length ≤ _; rw [sizeLine_eq]; omega))
  refine wpAny_bind (wpAny_newList ?_ (Nat.zero_le _))
  refine wpAny_holding ?_
  refine keys_made (s := { s with heap := ((s.heap.update a (Obj.mapSeq fun _ => (#[] : Array Value))).push (seqObj "tuple" vs.toArray 0)).push (seqObj "list" #[] 0) }) (kS := ((s.heap.update a (Obj.mapSeq fun _ => (#[] : Array Value))).push (seqObj "tuple" vs.toArray 0)).objs.size)
    ((F1.push _).push _) (fun p hp => ?_) (by rw [hkS]; exact Nat.ne_of_gt (Nat.lt_succ_of_lt ha)) (fun p hp => by rw [hkS]; exact Nat.ne_of_lt (Nat.lt_succ_of_lt (Heap.lt_size (N p hp).1))) hna htk hlen h64 turn h
  rcases List.mem_append.mp hp with hp | hp
  · exact ⟨Heap.get?_push_of_some _ (Heap.get?_push_of_some _ (N1 p hp).1), (N1 p hp).2⟩
  · rcases List.mem_cons.mp hp with rfl | hp
    · exact ⟨Heap.get?_push_size _ rfl, Nat.ne_of_gt hLk, Heap.get?_none_of_le (Nat.le_trans F.above (Nat.le_of_lt hLk))⟩
    · rw [List.mem_singleton.mp hp]
      exact ⟨Heap.get?_push_of_some _ (Heap.get?_push_of_some _ ho1), haL, ha0⟩
end

theorem call_sorted_rng {Q : Value → Shared → Prop} {r f L : Addr} {n : Nat} {t u v : Tok} {m : Str → Option Value} (g : Nat → Int) (hh : A.handled = none) (hr : IsRange s.heap r 0 n 1 t u v) (hn : n < 60) (hL : s.heap.Ns L m) (hg : ∀ i j, i < j → j < n → g i < g j)
    (turn : ∀ (i : Nat) (t : Tok) (h : Heap) (tk : Nat), i < n → s.toks ≤ tk → (∀ b o, b ≠ L → s.heap.get? b = some o → h.get? b = some o) → h.Ns L m →
      wpAny (model p w) A.in1.in1 (call (.ref f) [.int i t]) (fun v s₂ => ∃ h' tk' t', s₂ = { s with heap := h', toks := tk' } ∧ v = .int (g i) t' ∧ tk ≤ tk' ∧ ∀ b o, h.get? b = some o → h'.get? b = some o) (fun _ _ => False) { s with heap := h, toks := tk })
    (done : ∀ (D : Addr) (h' : Heap) (tk : Nat) (vs : List Value) (c : Nat), (∀ b o, b ≠ L → s.heap.get? b = some o → h'.get? b = some o) → h'.Ns L m → s.heap.get? D = none → h'.get? D = some (lstO vs c) → vs.length = n → (∀ (i : Nat) (v : Value), vs[i]? = some v → ∃ t, v = .int (i : Int) t) → Q (.ref D) { s with heap := h', toks := tk }) :
    wpAny (model p w) A (call (.builtin "sorted") [.ref r] [(Str.ofString "key", .ref f)]) Q E s := by
  refine call_function_entry_kw kind_sorted plain_sorted entry_sorted (ksk_s1 _ _) ?_
  unfold Builtin.«sorted»
  refine wpAny_bind (m := checkCount "sorted" 1 1 _) (wpAny_pure ?_)
  refine wpAny_bind (wpAny_with_toks (n := s.toks) (Nat.le_refl _) (collect_rng (A := A.in1) hh hr (by omega) fun h₁ tk₁ acc hk₁ hacc htk₁ => ?_))
  have haccl : acc.toList.length = n := by rw [Array.length_toList]; exact hacc.1
  refine wpAny_bind (wpAny_newList ?_ (by rw [haccl, sizeLine_eq]; omega))
  have hoL : (h₁.push (seqObj "list" acc.toList.toArray 0)).get? h₁.objs.size = some (seqObj "list" acc.toList.toArray 0) := Heap.get?_push_size _ rfl
  have keep : ∀ b o, s.heap.get? b = some o → (h₁.push (seqObj "list" acc.toList.toArray 0)).get? b = some o := fun b o e => Heap.get?_push_of_some _ (hk₁ b o e)
  refine wpAny_bind (wpAny_holding (wpAny_call_entry_kw slot_list_sort ⟨_, hoL, rfl⟩ entry_list_sort ?body (ksk_l1 _ _)))
  case body =>
    have ht' := ksk_t1 f h₁.objs.size
    show wpAny (model p w) A.in1.in1 (Builtin.«list.sort» ⟨[.ref h₁.objs.size], [(Str.ofString "key", .ref f)]⟩) _ _ _
    rw [ht']
    have hLlt : L < h₁.objs.size := by obtain ⟨o, _, _, ho, _⟩ := hL; exact Heap.lt_size (hk₁ _ _ ho)
    refine sort_keys (n₀ := s.toks) (h₀ := nil₀ s.heap) (L := L) (m := m) (news := newsOf s.heap L) (kz := (List.range n).map g) (vs := acc.toList) (s := { s with heap := h₁.push (seqObj "list" acc.toList.toArray 0), toks := tk₁ })
      ⟨hL.keeps keep, (fun b o e => by rw [nil₀_none] at e; cases e), Nat.zero_le _⟩ (fun q hq => ?_) hoL (Nat.ne_of_gt hLlt) (nil₀_none _ _) (fun q hq => ?_) htk₁ (by rw [haccl]; simp) (by rw [haccl]; omega) (fun i v k hv hkv h tk own htk₂ F N => ?_) fun h' tk out c F' N' k' => ⟨_, rfl, ?_⟩
    · obtain ⟨a, o⟩ := q
      obtain ⟨h1, h2⟩ := mem_newsOf.mp hq
      exact ⟨keep _ _ h2, h1, nil₀_none _ _⟩
    · obtain ⟨a, o⟩ := q
      obtain ⟨h1, h2⟩ := mem_newsOf.mp hq
      exact Nat.ne_of_lt (Heap.lt_size (hk₁ _ _ h2))
    · have hi : i < n := by
        obtain ⟨q, _⟩ := List.getElem?_eq_some_iff.mp hv
        omega
      obtain ⟨t', rfl⟩ := hacc.2 i v (by rw [← Array.getElem?_toList]; exact hv)
      have ek : k = g i := by
        rw [List.getElem?_map, List.getElem?_eq_getElem (by simpa using hi)] at hkv
        simpa using hkv.symm
      subst ek
      have ei : (0 + (i : Int) * 1) = (i : Int) := by omega
      rw [ei]
      refine wpAny_mono (turn i t' h tk hi htk₂ (fun b o hb e => (N (b, o) (List.mem_append_left _ (mem_newsOf.mpr ⟨hb, e⟩))).1) F.ns) (fun v' s₂ hx => ?_) fun _ _ x => x
      obtain ⟨h'', tk'', t'', rfl, rfl, htk₃, hk''⟩ := hx
      exact ⟨Nat.le_trans htk₂ htk₃, h'', tk'', t'', rfl, rfl, ⟨F.ns.keeps hk'', (fun b o e => by rw [nil₀_none] at e; cases e), Nat.zero_le _⟩, fun q hq => ⟨hk'' _ _ (N q hq).1, (N q hq).2⟩⟩
    · obtain ⟨ps, hp, ho, hs⟩ := k'
      have hsort : ((List.range n).map g).zip acc.toList = ps := by
        refine (sorted_unique hp ?_ hs).symm
        rw [List.pairwise_iff_getElem]
        intro i j hi hj hij
        rw [List.getElem_zip, List.getElem_zip]
        simp only [List.length_zip, List.length_map, List.length_range, haccl] at hi hj
        simp only [List.getElem_map, List.getElem_range]
        exact hg i j hij (by omega)
      have hout : out.toList = acc.toList := by
        rw [ho, ← hsort, List.map_snd_zip]
        rw [haccl]; simp
      have eo : seqObj "list" out c = lstO acc.toList c := by
        have : out = acc := Array.toList_inj.mp hout
        subst this
        simp [lstO]
      have z := N' (h₁.objs.size, seqObj "list" out c) (.head _)
      refine wpAny_pure ⟨_, rfl, done h₁.objs.size h' tk acc.toList c (fun b o hb e => (N' (b, o) (.tail _ (mem_newsOf.mpr ⟨hb, e⟩))).1) F'.ns (none_of_keep hk₁ (get?_size _)) ?_ haccl fun i v hv => ?_⟩
      · have := z.1
        rw [eo] at this; exact this
      · obtain ⟨t', e⟩ := hacc.2 i v (by rw [← Array.getElem?_toList]; exact hv)
        exact ⟨t', by rw [e]; simp⟩
end
end Mine
end
section
open PySem PySem.Calls PyProof.Rows PySem.Spec PySem.W
set_option maxRecDepth 100000
set_option linter.unusedVariables false
namespace Mine
section
variable {p : Program} {w : World} {k : Nat} {sc : Scope} {σ : List (Str × D)} {ω : List (Str × OC)} {P : Out → Prop}
/-- all is kept but the names' own table, whose names stand -/
theorem SOk.reLoc {B : Bs} {α : Str → Addr} {env : Env} {g : PH} {s : Shared} {h' : Heap} {tk : Nat} {m : Str → Option Value} (O : SOk p w B α env σ ω g s) (hm : s.heap.Ns env.locals m) (hm' : h'.Ns env.locals m) (hs : ∀ c o, c ≠ env.locals → s.heap.get? c = some o → h'.get? c = some o) (ht : s.toks ≤ tk) :
    SOk p w B α env σ ω g { s with heap := h', toks := tk } := by
  have has : ∀ {y v}, Has env s.heap y v → Has env h' y v := fun {y v} H => by
    rcases H with ⟨e, m', hn, hv⟩ | ⟨e, c, hc, hv⟩
    · have := ns_unique hm hn; subst this
      exact .inl ⟨e, m, hm', hv⟩
    · exact .inr ⟨e, c, hc, let ⟨o, ho, r⟩ := hv; ⟨o, hs _ _ (O.offC _ c hc).2.2 ho, r⟩⟩
  exact { e := { sub := fun a o e => hs a o (fun q => by rw [q, O.offL.1] at e; cases e) (O.e.sub a o e), gd := O.e.gd, tok := Nat.le_trans O.e.tok ht, kind := O.e.kind, glob := O.e.glob, blt := O.e.blt, lns := ⟨m, hm'⟩,
                 cells := fun n c hc => let ⟨v, hv⟩ := O.e.cells n c hc; ⟨v, let ⟨o, ho, r⟩ := hv; ⟨o, hs _ _ (O.offC n c hc).2.2 ho, r⟩⟩, hasc := O.e.hasc,
                 vars := fun x d hl hk => let ⟨v, hv, r⟩ := O.e.vars x d hl hk; ⟨v, has hv, r⟩ }
          same := by obtain ⟨h, t, e⟩ := O.same; exact ⟨h', tk, by rw [e]⟩
          keep := fun a o e => hs a o (fun q => by have := O.klt a o e; rw [q, O.offL.2] at this; cases this) (O.keep a o e)
          klt := O.klt, le := O.le, fresh := O.fresh
          old := fun a e => by
            by_cases q : a = env.locals
            · rw [q]; exact O.offL.2
            · refine O.old a ?_
              cases q2 : s.heap.get? a with
              | none => rfl
              | some o => have e' : h'.get? a = none := e; rw [hs a o q q2] at e'; cases e'
          tks := Nat.le_trans O.tks ht
          xs := fun y hy => let ⟨h1, h2, h3⟩ := O.xs y hy; ⟨hs y.1 _ (fun q => h3 (by rw [q]; exact O.offL.2)) h1, h2, h3⟩
          offL := O.offL, offC := O.offC, inj := O.inj
          own := fun x c hc => let ⟨h1, h2, h3, h4, h5, h6⟩ := O.own x c hc; ⟨has h1, h2.at (.refl _) fun o e => hs _ _ h5 e, h3, h4, h5, h6⟩
          apart := O.apart }
/-- the code table is changed -/
theorem SOk.dropT {B : Bs} {α : Str → Addr} {env : Env} {g : PH} {s : Shared} {h' : Heap} {tk : Nat} {T : Addr} {oT oT' : Obj} (O : SOk p w B α env σ ω g s) (hx : B.xs = [(T, oT)]) (hk₀ : B.k₀ T = none) (hT : h'.get? T = some oT') (hs : ∀ c o, c ≠ T → s.heap.get? c = some o → h'.get? c = some o) (ht : s.toks ≤ tk) :
    SOk p w { B with xs := [(T, oT')] } α env σ ω g { s with heap := h', toks := tk } := by
  obtain ⟨_, gT, nT⟩ := O.xs (T, oT) (by rw [hx]; exact .head _)
  have nl : env.locals ≠ T := fun q => nT (q ▸ O.offL.2)
  have nc : ∀ n c, env.cells.lookup n = some c → c ≠ T := fun n c hc q => nT (q ▸ (O.offC n c hc).2.1)
  have has : ∀ {y v}, Has env s.heap y v → Has env h' y v := fun {y v} H => by
    rcases H with ⟨e, m', hn, hv⟩ | ⟨e, c, hc, hv⟩
    · exact .inl ⟨e, m', hn.at' fun o e => hs _ o nl e, hv⟩
    · exact .inr ⟨e, c, hc, let ⟨o, ho, r⟩ := hv; ⟨o, hs _ _ (nc _ c hc) ho, r⟩⟩
  exact { e := { sub := fun a o e => hs a o (fun q => by rw [q, gT] at e; cases e) (O.e.sub a o e), gd := O.e.gd, tok := Nat.le_trans O.e.tok ht, kind := O.e.kind, glob := O.e.glob, blt := O.e.blt, lns := let ⟨m, hm⟩ := O.e.lns; ⟨m, hm.at' fun o e => hs _ o nl e⟩,
                 cells := fun n c hc => let ⟨v, hv⟩ := O.e.cells n c hc; ⟨v, let ⟨o, ho, r⟩ := hv; ⟨o, hs _ _ (nc n c hc) ho, r⟩⟩, hasc := O.e.hasc,
                 vars := fun x d hl hk => let ⟨v, hv, r⟩ := O.e.vars x d hl hk; ⟨v, has hv, r⟩ }
          same := by obtain ⟨h, t, e⟩ := O.same; exact ⟨h', tk, by rw [e]⟩
          keep := fun a o e => hs a o (fun q => by have e' : B.k₀ a = some o := e; rw [q, hk₀] at e'; cases e') (O.keep a o e)
          klt := O.klt, le := O.le, fresh := O.fresh
          old := fun a e => by
            by_cases q : a = T
            · have e' : h'.get? a = none := e
              rw [q, hT] at e'; cases e'
            · refine O.old a ?_
              cases q2 : s.heap.get? a with
              | none => rfl
              | some o => have e' : h'.get? a = none := e; rw [hs a o q q2] at e'; cases e'
          tks := Nat.le_trans O.tks ht
          xs := fun y hy => by rw [List.mem_singleton.mp hy]; exact ⟨hT, gT, nT⟩
          offL := O.offL, offC := O.offC, inj := O.inj
          own := fun x c hc => let ⟨h1, h2, h3, h4, h5, h6⟩ := O.own x c hc; ⟨has h1, h2.at (.refl _) fun o e => hs _ _ (fun q => nT (q ▸ h4)) e, h3, h4, h5, h6⟩
          apart := O.apart }
/-- an object of nobody's is frozen -/
theorem SOk.learn {B : Bs} {α : Str → Addr} {env : Env} {g : PH} {s : Shared} {a : Addr} {o : Obj} (O : SOk p w B α env σ ω g s) (ap : Apart B α env ω g a) (ho : s.heap.get? a = some o) : SOk p w B α env σ ω (g.put a o) s := by
  have le := PH.put_le (o := o) ap.g
  have off : ∀ b, g b = none → b ≠ a → (g.put a o) b = none := fun b h q => by unfold PH.put; rw [if_neg q]; exact h
  exact { e := { O.e with
                  sub := fun b o' e => by
                    unfold PH.put at e
                    split at e
                    · rename_i q; subst q; cases e; exact ho
                    · exact O.e.sub b o' e
                  gd := O.e.gd.mono le
                  vars := fun y d hl hk => let ⟨v, hv, r⟩ := O.e.vars y d hl hk; ⟨v, hv, r.mono le⟩ }
          same := O.same, keep := O.keep, klt := O.klt, le := O.le.trans le
          fresh := fun b o' e => by
            unfold PH.put at e
            split at e
            · rename_i q; subst q; exact .inr ap.new
            · exact O.fresh b o' e
          old := O.old, tks := O.tks
          xs := fun y hy => let ⟨h1, h2, h3⟩ := O.xs y hy; ⟨h1, off _ h2 fun q => h3 (by rw [q]; exact ap.new), h3⟩
          offL := ⟨off _ O.offL.1 (Ne.symm ap.loc), O.offL.2⟩
          offC := fun n c hc => let ⟨h1, h2⟩ := O.offC n c hc; ⟨off _ h1 (Ne.symm (ap.cell n c hc)), h2⟩
          inj := O.inj
          own := fun y c hc => let ⟨h1, h2, h3, h4⟩ := O.own y c hc; ⟨h1, h2.at le fun _ e => e, off _ h3 (ap.own y c hc), h4⟩
          apart := O.apart }

/-- a lambda's frame -/
theorem lam_env {env env' : Env} {g : PH} {s s' : Shared} {scope : Scope} {x : Str} {cl : List (Str × Addr)} {m : Str → Option Value} {v : Value} {e : D} (O : EOk p w env σ g s) (ok : CompOk scope env.scope x)
    (h2 : ∀ n c, cl.lookup n = some c → env.cells.lookup n = some c) (h3 : ∀ n, (n, NameKind.free) ∈ scope.names → (cl.lookup n).isSome = true) (hk : ∀ b o, s.heap.get? b = some o → s'.heap.get? b = some o) (htk : s.toks ≤ s'.toks)
    (e1 : env'.scope = scope) (e2 : env'.cells = cl) (e3 : env'.globals = mainGlobals) (e4 : env'.builtins = builtinsNs) (hn : s'.heap.Ns env'.locals m) (hm : m x = some v) (r : Rp p w g e v) :
    EOk p w env' ((x, e) :: σ) g s' where
  sub := fun a o h => hk a o (O.sub a o h)
  gd := O.gd
  tok := Nat.le_trans O.tok htk
  kind := by rw [e1]; exact ok.kind
  glob := e3
  blt := e4
  lns := ⟨m, hn⟩
  cells := fun n c h => let ⟨v, hv⟩ := O.cells n c (h2 n c (e2 ▸ h)); ⟨v, hv.keeps hk⟩
  hasc := fun y hy => by
    rw [e2]
    unfold Env.kindOf at hy
    rw [e1] at hy
    rcases hy with hy | hy
    · exact absurd rfl (ok.noCell _ (mem_of_lookup hy))
    · exact h3 _ (mem_of_lookup hy)
  vars := fun y d hl hkn => by
    obtain ⟨hne, hkn⟩ := hkn
    unfold Env.kindOf at hkn
    rw [e1] at hkn
    rcases hkn with hkn | hkn | hkn
    · have hyx : y = x := ((ok.loc _ (mem_of_lookup hkn) rfl).2).elim id fun q => by rw [beq_eq_false_iff_ne] at hne; exact absurd q hne
      subst hyx
      rw [List.lookup_cons, beq_self_eq_true] at hl
      cases hl
      exact ⟨v, .inl ⟨by unfold Env.kindOf; rw [e1]; exact hkn, m, hn, hm⟩, r⟩
    · exact absurd rfl (ok.noCell _ (mem_of_lookup hkn))
    · have hyx : y ≠ x := fun q => by
        subst q
        rw [ok.var] at hkn; cases hkn
      rw [List.lookup_cons, beq_eq_false_iff_ne.mpr hyx] at hl
      have hfr := ok.free _ (mem_of_lookup hkn) rfl
      obtain ⟨u, hH, rr⟩ := O.vars y d hl ⟨hne, .inr hfr⟩
      refine ⟨u, .inr ⟨.inr (by unfold Env.kindOf; rw [e1]; exact hkn), ?_⟩, rr⟩
      obtain ⟨c', hc'⟩ := Option.isSome_iff_exists.mp (h3 _ (mem_of_lookup hkn))
      rcases hH with ⟨e, _⟩ | ⟨_, c, hc, hv⟩
      · unfold Env.kindOf at e
        rcases hfr with q | q <;> rw [e] at q <;> cases q
      · have := h2 y c' hc'
        obtain rfl : c = c' := by rw [hc] at this; exact Option.some.inj this
        exact ⟨c, by rw [e2]; exact hc', hv.keeps hk⟩

/-- a call of a lambda of one parameter -/
theorem call_lam {A : Around} {env : Env} {g : PH} {s : Shared} {scope : Scope} {x : Str} {cl : List (Str × Addr)} {name qual : Str} {params : Arguments} {body : Expr} {pm ctv v : Value} {c' f : Addr} {e d : D} {Q : Value → Shared → Prop} {E : Value → Shared → Prop}
    (hA : Rm (k + 1) A) (O : EOk p w env σ g s) (ok : CompOk scope env.scope x) (h2 : ∀ n c, cl.lookup n = some c → env.cells.lookup n = some c) (h3 : ∀ n, (n, NameKind.free) ∈ scope.names → (cl.lookup n).isSome = true)
    (ho : s.heap.get? f = some (kla_obj name qual params body scope cl pm c' ctv)) (hcd : s.heap.CodeRec (.ref c') qual) (hbind : ∀ v, bindArgs (kla_fn name qual params body scope cl pm (.ref c') ctv) ⟨[v], []⟩ = pure [(x, v)]) (hco : scope.isCoroutine = false) (hgen : scope.isGenerator = false)
    (r : Rp p w g e v) (hb : Ev p k scope ((x, e) :: σ) body d) (hQ : ∀ v' g' s', Stp g g' s s' → Rp p w g' d v' → Q v' s') : wpAny (model p w) A (call (.ref f) [v]) Q E s := by
  refine wpAny_call (kla_callFunE hA.room ho rfl hco hgen rfl hcd ?_)
  rw [hbind]
  refine wpAny_pure (wpAny_newFunctionEnv ok.noCell (by intro y hy; rw [List.mem_singleton.mp hy]; exact ok.var) (fun h₁ hns hsb => ⟨(O.gd.nolimit O.sub).fresh _ hsb, ?_⟩) ok.kind)
  have hk : ∀ b o, s.heap.get? b = some o → h₁.get? b = some o := fun b o e => hsb.extBut b o (Nat.ne_of_lt (Heap.lt_size e)) (Heap.get?_push_of_some _ e)
  refine kla_codeExpr ?_
  have O' := lam_env (s' := { s with heap := h₁, toks := s.toks + [(x, v)].length }) (env' := newEnv scope s.heap.objs.size mainGlobals cl (qual ++ ".<locals>.") (some f) (.ref c') none builtinsNs) O ok h2 h3 hk (Nat.le_add_right _ _) rfl rfl rfl rfl hns (by simp) r
  refine hb.go w _ _ g _ _ _ (hA.deeper _) rfl O' fun v' g' s' X rr => ?_
  exact hQ v' g' s' ((Stp.grow O.sub hk (Nat.le_add_right _ _)).trans X) rr

/-- sorted(range(n), key=lambda x: ..), the keys rising -/
theorem wp_sortedLam {A : Around} {B : Bs} {α : Str → Addr} {env : Env} {g : PH} {s : Shared} {scope : Scope} {x : Str} {params : Arguments} {body re : Expr} {np lp kp pos : Pos} {n : Nat} {Q : Value → Shared → Prop} {E : Value → Shared → Prop} (gk : Nat → Int)
    (hA : Rm (k + 3) A) (O : SOk p w B α env σ ω g s) (hx : B.xs = [(tabA, tabObj #[])]) (hk₀ : B.k₀ tabA = none) (hcode : env.code = .ref codA) (ok : CompOk scope env.scope x) (hkS : env.scope.names.lookup ("sorted" : Str) = some .globalImplicit)
    (hdef : defaultsOf params env = ([], [])) (hbind : ∀ qual cl pm cv ctv v, bindArgs (kla_fn "<lambda>" qual params body scope cl pm cv ctv) ⟨[v], []⟩ = pure [(x, v)]) (hco : scope.isCoroutine = false) (hgen : scope.isGenerator = false)
    (hn : n < 60) (hg : ∀ i j, i < j → j < n → gk i < gk j) (hr : Ev p (k + 3) env.scope σ re (.rng n)) (hb : ∀ i, i < n → Ev p k scope ((x, .int (i : Int)) :: σ) body (.int (gk i)))
    (hst : starEach [re] env = (false, eval re env) :: starEach [] env)
    (hQ : ∀ ps v g' s', SOk p w { B with xs := [(tabA, tabObj ps)] } α env σ ω g' s' → Rp p w g' (.lst ((List.range n).map fun (i : Nat) => D.int (i : Int))) v → Q v s') :
    wpAny (model p w) A (eval (.Call (.Name "sorted" np) [re] [⟨some "key", .Lambda params body scope lp, kp⟩] pos) env) Q E s := by
  obtain ⟨b, mg, mb, hbb, G⟩ := O.e.gd
  have kp₀ : ∀ a o, b.get? a = some o → s.heap.get? a = some o := fun a o e => O.e.sub a o (hbb a o e)
  have h1 : (("sorted" : Str)) ∈ blts := by decide +kernel
  refine wpAny_Call_Name_kw (Calls.Name_function_global O.e.kind hkS (Calls.loadGlobal_builtin (mg := mg) (mb := mb) (v := .builtin "sorted") (O.e.glob ▸ G.glob.keeps kp₀) (G.miss _ h1) (O.e.blt ▸ G.blt.keeps kp₀) ((G.boot _ h1).trans (by decide +kernel)) ?_) (by decide))
  refine callWith_kw ?_ (by show (backTo pos (starEach [re] env)) = _; rw [hst]; rfl) (by rw [hst]; rfl)
  refine PyProof.Rows.spliced_more (hr.go w A env g s _ E hA rfl O.e fun v₁ g₁ s₁ x₁ r₁ => PyProof.Rows.spliced_none ?_) hst
  have O₁ := O.step x₁
  obtain ⟨hTo, gT, nT⟩ := O₁.xs (tabA, tabObj #[]) (by rw [hx]; exact .head _)
  have kp₁ : ∀ a o, b.get? a = some o → s₁.heap.get? a = some o := fun a o e => x₁.keep _ _ (kp₀ a o e)
  obtain ⟨cl, hcl, hcl2, hcl3⟩ := closure_ok (comp_free O₁.e ok)
  have hgT : mainGlobals ≠ tabA := by decide
  refine kws_cons (kla_eval hdef (wpAny_with_toks (n := s₁.toks) (Nat.le_refl _) (kla_makeFunction (mg := mg) (c := codA) (P := tabA) (ps := #[]) hcl O₁.e.glob (G.glob.keeps kp₁) hcode (G.head.keeps kp₁) hTo trivial rfl hgT (by
    obtain ⟨bm, o, q1, q2, q3, q4, q5, q6⟩ := G.bmain
    exact ⟨bm, o, q1, q2, q3, q4, kp₁ _ _ q5, q6⟩) fun c' ctv h' tk hext hge hlt hrec htb htk => ?_)))
  refine kws_nil ?_
  show wpAny (model p w) A (call (.builtin "sorted") [v₁] [(Str.ofString "key", .ref h'.objs.size)]) Q E _
  have O₂ := O₁.dropT (tk := tk) (h' := h'.push (kla_obj "<lambda>" (env.qual ++ "<lambda>") params body scope cl ((mg "__name__").getD .none) c' ctv)) hx hk₀ (Heap.get?_push_of_some _ htb) (fun c o hc e => Heap.get?_push_of_some _ (hext c o hc e)) htk
  rw [Rp.rng_iff] at r₁
  obtain ⟨ra, t, u, y, rfl, hra⟩ := r₁
  obtain ⟨m, hm⟩ := O₂.e.lns
  have hfo : (h'.push (kla_obj "<lambda>" (env.qual ++ "<lambda>") params body scope cl ((mg "__name__").getD .none) c' ctv)).get? h'.objs.size = some (kla_obj "<lambda>" (env.qual ++ "<lambda>") params body scope cl ((mg "__name__").getD .none) c' ctv) := Heap.get?_push_size _ rfl
  have hLf : env.locals < h'.objs.size := by
    obtain ⟨m₁, o, _, _, ho, _⟩ := O₁.e.lns
    have hne : env.locals ≠ tabA := fun q => nT (q ▸ O₁.offL.2)
    exact Heap.lt_size (hext _ _ hne ho)
  have hLc : env.locals < c' := by
    obtain ⟨m₁, o, _, _, ho, _⟩ := O₁.e.lns
    exact Nat.lt_of_lt_of_le (Heap.lt_size ho) hge
  refine wpAny_with_toks (n := tk) (Nat.le_refl _) (call_sorted_rng (L := env.locals) (m := m) (s := { s₁ with heap := h'.push (kla_obj "<lambda>" (env.qual ++ "<lambda>") params body scope cl ((mg "__name__").getD .none) c' ctv), toks := tk }) gk hA.1 (O₂.e.sub _ _ hra) hn hm hg (fun i ti h tk₂ hi htk₂ hkeep hns => ?_) fun D h₃ tk₃ vs c hkeep hns hD hDo hvl hvi htk₃ => ?_)
  · have O₃ := O₂.reLoc hm hns hkeep htk₂
    obtain ⟨cc, oc, vsc, tc, ec, hoc, hdc, hvc⟩ := hrec
    cases ec
    refine call_lam (k := k) (e := .int (i : Int)) (d := .int (gk i)) hA.in1.in1 O₃.e ok hcl2 hcl3 (hkeep _ _ (Nat.ne_of_gt hLf) hfo) ⟨c', oc, vsc, tc, rfl, hkeep _ _ (Nat.ne_of_gt hLc) (Heap.get?_push_of_some _ hoc), hdc, hvc⟩ (hbind _ _ _ _ _) hco hgen (.int ti) (hb i hi) fun v' g' s' X rr => ?_
    rw [Rp.int_iff] at rr
    obtain ⟨t', rfl⟩ := rr
    obtain ⟨h'', tk'', rfl⟩ := X.same
    exact ⟨h'', tk'', t', rfl, rfl, X.tks, X.keep⟩
  · have O₃ := O₂.reLoc hm hns hkeep htk₃
    have ap := O₂.known hD
    have O₄ := O₃.learn ⟨ap.g, ap.new, ap.loc, ap.cell, ap.own⟩ hDo
    refine hQ _ _ _ _ O₄ (.lst (PH.put_self _ _ _) (RpL.of_get (by simp [hvl]) fun i d v hd hv => ?_))
    obtain ⟨hi, rfl⟩ := range_at hd
    obtain ⟨t', rfl⟩ := hvi i v hv
    exact .int t'
end
end Mine
end
section
open PySem PySem.Calls PyProof.Rows PySem.Spec PySem.W
set_option maxRecDepth 100000
set_option linter.unusedVariables false
namespace Mine
/-- statements in a frame before the code table is touched -/
structure WsX (p : Program) (k : Nat) (sc : Scope) (cd : Bool) (ss : List Stmt) (σ : List (Str × D)) (ω : List (Str × OC)) (P : D → Prop) : Prop where
  go : ∀ (w : World) (A : Around) (env : Env) (B : Bs) (α : Str → Addr) (g : PH) (s : Shared) (Q : Flow → Shared → Prop) (E : Value → Shared → Prop), Rm k A → env.scope = sc → B.xs = [(tabA, tabObj #[])] → B.k₀ tabA = none → (cd = true → env.code = .ref codA) → SOk p w B α env σ ω g s →
    (∀ d v g' s' ps, P d → Rp p w g' d v → Ends p w { B with xs := [(tabA, tabObj ps)] } g' s' → Q (.ret v) s') → wpAny (model p w) A (execs ss env) Q E s
/-- a step that may change the code table -/
structure StpX (g g' : PH) (s s' : Shared) : Prop where
  le : Le g g'
  sub : Sub g' s'.heap
  fresh : ∀ a o, g' a = some o → g a = some o ∨ s.heap.get? a = none
  keep : ∀ b o, b ≠ tabA → s.heap.get? b = some o → s'.heap.get? b = some o
  same : ∃ h' tk, s' = { s with heap := h', toks := tk }
  tks : s.toks ≤ s'.toks
  tab : ∃ ps, s'.heap.get? tabA = some (tabObj ps)
structure FnDX (p : Program) (k : Nat) (f : Str) (ds : List D) (d : D) : Prop where
  go : ∀ (w : World) (A : Around) (g : PH) (s : Shared) (vs : List Value) (a : Addr) (Q : Value → Shared → Prop) (E : Value → Shared → Prop), Rm k A → Sub g s.heap → IsFn p w g f a → 1 ≤ s.toks → RpL p w g ds vs → g tabA = none → s.heap.get? tabA = some (tabObj #[]) →
    (∀ r g' s', StpX g g' s s' → Rp p w g' d r → Q r s') → wpAny (model p w) A (call (.ref a) vs) Q E s
noncomputable def retOnly (P : D → Prop) : Out → Prop
  | .ret d => P d
  | .nxt _ _ => False
section
variable {p : Program} {k : Nat} {sc : Scope} {σ : List (Str × D)} {ω : List (Str × OC)} {P : D → Prop} {cd : Bool}
theorem wsx_cons {st : Stmt} {ss : List Stmt} (h : Wx p k sc st σ ω (andThen (fun σ' ω' => WsX p k sc cd ss σ' ω' P) (retOnly P))) : WsX p k sc cd (st :: ss) σ ω P := .mk fun w A env B α g s Q E hA hs hx hk hc O hQ => by
  refine wpAny_execs_cons (h.go w A env B α g s _ E hA hs O fun o f s' ho hm => ?_)
  cases o with
  | ret d =>
    obtain ⟨v, g', rfl, r, e⟩ := hm
    refine hQ d v g' s' #[] ho r ?_
    rw [← hx]; exact e
  | nxt σ' ω' =>
    obtain ⟨rfl, α', g', O'⟩ := hm
    exact ho.go w A env B α' g' s' Q E hA hs hx hk hc O' hQ
theorem wsx_weak {ss : List Stmt} {σ' : List (Str × D)} (h : WsX p k sc cd ss σ' ω P) (hσ : ∀ x d, σ'.lookup x = some d → σ.lookup x = some d) : WsX p k sc cd ss σ ω P := .mk fun w A env B α g s Q E hA hs hx hk hc O hQ =>
  h.go w A env B α g s Q E hA hs hx hk hc (O.again hσ) hQ
/-- for y in sorted(range(n), key=lambda x: ..): .. -/
theorem wsx_forLam {y x : Str} {yp np lp kp cpos pos : Pos} {params : Arguments} {lbody re : Expr} {scope : Scope} {body ss : List Stmt} {n : Nat} (gk : Nat → Int) (Inv : Nat → List (Str × D) → List (Str × OC) → Prop)
    (hok : compOk scope sc x = true) (hkS : sc.names.lookup ("sorted" : Str) = some .globalImplicit) (hdef : ∀ env, defaultsOf params env = ([], [])) (hbind : ∀ qual cl pm cv ctv v, bindArgs (kla_fn "<lambda>" qual params lbody scope cl pm cv ctv) ⟨[v], []⟩ = pure [(x, v)])
    (hco : scope.isCoroutine = false) (hgen : scope.isGenerator = false) (hn : n < 60) (hg : ∀ i j, i < j → j < n → gk i < gk j) (hr : Ev p (k + 3) sc σ re (.rng n)) (hbl : ∀ i, i < n → Ev p k scope ((x, .int (i : Int)) :: σ) lbody (.int (gk i))) (hst : ∀ env, starEach [re] env = (false, eval re env) :: starEach [] env)
    (hy : isOwn sc y = true) (h0 : Inv 0 σ ω)
    (hb : ∀ i σ' ω', i < n → Inv i σ' ω' → ω'.lookup y = none ∧ Ws p (k + 3) sc body ((y, .int (i : Int)) :: σ') ω' (andThen (fun σ'' ω'' => Inv (i + 1) σ'' ω'') (retOnly P))) (hend : ∀ σ' ω', Inv n σ' ω' → Ws p (k + 3) sc ss σ' ω' (retOnly P))
    (hf : ∀ env v, foldedSetIterable (.Call (.Name "sorted" np) [re] [⟨some "key", .Lambda params lbody scope lp, kp⟩] cpos) env v = pure v) :
    WsX p (k + 3) sc true (.For (.Name y yp) (.Call (.Name "sorted" np) [re] [⟨some "key", .Lambda params lbody scope lp, kp⟩] cpos) body [] pos :: ss) σ ω P := .mk fun w A env B α g s Q E hA hs hx hk hc O hQ => by
  subst hs
  refine wpAny_execs_cons (wpAny_For (wp_sortedLam gk hA O hx hk (hc rfl) (compOk.spec hok) hkS (hdef env) hbind hco hgen hn hg hr hbl (hst env) fun ps v g₁ s₁ O₁ r₁ => ?_) (hf env))
  refine wp_forCore (P := andThen (fun σ' ω' => Ws p (k + 3) env.scope ss σ' ω' (retOnly P)) (retOnly P)) Inv hA rfl O₁ r₁ rfl (by simp; omega) hy h0 (fun i e σ' ω' he hi => ?_) (fun σ' ω' hi => ?_) fun o f s' ho hm => ?_
  · obtain ⟨hin, rfl⟩ := range_at he
    obtain ⟨q1, q2⟩ := hb i σ' ω' hin hi
    refine ⟨q1, ws_mono q2 fun o ho => ?_⟩
    cases o with
    | ret d => exact ho
    | nxt σ'' ω'' => exact ho
  · rw [List.length_map, List.length_range] at hi
    exact hend σ' ω' hi
  · cases o with
    | ret d =>
      obtain ⟨v, g', rfl, r, e⟩ := hm
      exact hQ d v g' s' ps ho r e
    | nxt σ' ω' =>
      obtain ⟨rfl, α', g', O'⟩ := hm
      refine ho.go w A env _ α' g' s' Q E hA rfl O' fun o f s'' ho' hm' => ?_
      cases o with
      | ret d =>
        obtain ⟨v, g'', rfl, r, e⟩ := hm'
        exact hQ d v g'' s'' ps ho' r e
      | nxt _ _ => exact ho'.elim
end
section
variable {p : Program} {k : Nat}
/-- the def that makes a lambda, by its body -/
theorem fn_introX {fd : FD} {ds : List D} {d : D} (hm : fd ∈ fds p) (hbind : ∀ pm cd doc (vs : List Value), vs.length = ds.length → bindArgs (docDef fd.name fd.params fd.body fd.scope pm cd doc) ⟨vs, []⟩ = pure ((fd.params.args.map (·.arg)).zip vs))
    (hl : (fd.params.args.map (·.arg)).length = ds.length) (hnd : (fd.params.args.map (·.arg)).Nodup) (hown : (fd.params.args.map (·.arg)).all (isOwn fd.scope) = true) (hk : fd.scope.kind = .function) (hco : fd.scope.isCoroutine = false) (hgen : fd.scope.isGenerator = false)
    (hfree : fd.scope.names.all (fun x => x.2 != .free) = true)
    (hname : fd.name = "_law_painted") (h : WsX p k fd.scope true fd.body ((fd.params.args.map (·.arg)).zip ds) [] (fun d' => d' = d)) : FnDX p (k + 1) fd.name ds d := .mk fun w A g s vs a Q E hA S F hT hr gT hTo hQ => by
  obtain ⟨b, mg, mb, hbb, G, hma⟩ := F
  have kp : ∀ a o, b.get? a = some o → s.heap.get? a = some o := fun a o e => S a o (hbb a o e)
  obtain ⟨a', o, pm, doc, hm', ho, hdat, hcd⟩ := G.lam fd hm hname
  have hlt : tabA < s.heap.objs.size := Heap.lt_size hTo
  rw [hma] at hm'; cases hm'
  have hlen := hr.length
  have hnames : ∀ x ∈ (fd.params.args.map (·.arg)).zip vs, isOwn fd.scope x.1 = true := fun x hx => List.all_eq_true.mp hown _ (List.of_mem_zip hx).1
  have hnd' : (((fd.params.args.map (·.arg)).zip vs).map (·.1)).Nodup := by
    rw [List.map_fst_zip (by rw [hl, hlen]; exact Nat.le_refl _)]; exact hnd
  refine wpAny_call (call_cells_tk hA.room (kp _ _ ho) hdat (G.lim.keeps kp) (hcd.keeps kp) rfl (hbind pm (.ref codA) doc vs hlen) rfl (fun x hx => ?_) (fun s₁ htk X => ?_) hco hgen hk)
  · have := hnames x hx
    unfold isOwn at this
    split at this <;> rename_i e
    · exact .inl e
    · exact .inr ⟨e, cells_isSome _ _ _ _ (.inl e)⟩
    · cases this
  · have ⟨h₁, tk, he⟩ := X.toInCall.same
    have hL : (callEnvC (docDef fd.name fd.params fd.body fd.scope pm (.ref codA) doc) s.heap.objs.size a).locals = s.heap.objs.size := rfl
    have keep := X.toInCall.keep
    have snone : ∀ c, s.heap.objs.size ≤ c → s.heap.get? c = none := fun c hc => by
      cases e : s.heap.get? c with
      | none => rfl
      | some o' => exact absurd (Heap.lt_size e) (Nat.not_lt.mpr hc)
    have gnone : ∀ c, s.heap.objs.size ≤ c → g c = none := fun c hc => by
      cases e : g c with
      | none => rfl
      | some o' => exact absurd (sub_lt S e) (Nat.not_lt.mpr hc)
    have vars : ∀ x d, ((fd.params.args.map (·.arg)).zip ds).lookup x = some d → known (callEnvC (docDef fd.name fd.params fd.body fd.scope pm (.ref codA) doc) s.heap.objs.size a) x → ∃ v, Has (callEnvC (docDef fd.name fd.params fd.body fd.scope pm (.ref codA) doc) s.heap.objs.size a) s₁.heap x v ∧ Rp p w g d v := by
      intro x d hx hkn
      obtain ⟨v, hv, rr⟩ := zip_lookup hr hx
      have hox := hnames (x, v) (mem_of_lookup hv)
      refine ⟨v, ?_, rr⟩
      unfold isOwn at hox
      split at hox <;> rename_i e
      · exact .inl ⟨e, _, X.toInCall.ns, by rw [bindL_eq (by exact e) _ _ hnd']; simp [hv]⟩
      · obtain ⟨c, hc⟩ := Option.isSome_iff_exists.mp (cells_isSome fd.scope.names (s.heap.objs.size + 1) [] x (.inl e))
        refine .inr ⟨.inl e, c, hc, ?_⟩
        have := X.cell x c hc
        rw [bindC_eq (by exact e) _ _ hnd'] at this
        simpa [hv] using this
      · cases hox
    have O : SOk p w ⟨s, fun b => if b = tabA then none else s.heap.get? b, g, [(tabA, tabObj #[])]⟩ (fun _ => 0) (callEnvC (docDef fd.name fd.params fd.body fd.scope pm (.ref codA) doc) s.heap.objs.size a) ((fd.params.args.map (·.arg)).zip ds) [] g s₁ :=
      { e := { sub := fun a o e => keep a o (S a o e), gd := ⟨b, mg, mb, hbb, G⟩, tok := Nat.le_trans hT htk, kind := hk, glob := rfl, blt := rfl, lns := ⟨_, X.toInCall.ns⟩, cells := fun n c hc => ⟨_, X.cell n c hc⟩,
               hasc := fun x hx => by
                 rcases hx with hx | hx
                 · exact cells_isSome _ _ _ _ (.inl hx)
                 · have := List.all_eq_true.mp hfree (x, .free) (mem_of_lookup hx)
                   simp at this
               vars := vars }
        same := ⟨h₁, tk, he⟩
        keep := fun b o e => by
          dsimp only at e
          split at e
          · cases e
          · exact keep b o e
        klt := fun b o e => by
          dsimp only at e
          split at e
          · cases e
          · exact e
        le := .refl g
        fresh := fun a o e => .inl e
        old := fun a e => none_of_keep keep e
        tks := htk
        xs := fun x hx => by
          rw [List.mem_singleton.mp hx]
          exact ⟨keep _ _ hTo, gT, fun q => by have q' : s.heap.get? tabA = none := q; rw [hTo] at q'; cases q'⟩
        offL := ⟨gnone _ (Nat.le_refl _), snone _ (Nat.le_refl _)⟩
        offC := fun n c hc => by
          have hlt := X.above n c (mem_of_lookup hc)
          rw [hL] at hlt
          exact ⟨gnone c (Nat.le_of_lt hlt), snone c (Nat.le_of_lt hlt), Nat.ne_of_gt hlt⟩
        inj := fun n n' c h1 h2 => name_of_addr X.apart (mem_of_lookup h1) (mem_of_lookup h2)
        own := fun x c hc => by simp at hc
        apart := fun x y c d hx => by simp at hx }
    refine h.go w _ _ _ _ g s₁ _ _ (hA.deeper _) rfl rfl (by simp) (fun _ => rfl) O fun d' v g' s' ps hd rr En => ?_
    subst hd
    refine hQ v g' s' ⟨En.le, En.sub, En.fresh, fun b o hb e => En.keep b o (by dsimp only; rw [if_neg hb]; exact e), En.same, En.tks, ps, En.xs _ (.head _)⟩ rr
end
end Mine
end
section
open PySem PySem.Calls PyProof.Rows PySem.Spec PySem.W
set_option maxRecDepth 100000
set_option linter.unusedVariables false
namespace Mine
section
variable {p : Program} {w : World} {k : Nat} {sc : Scope} {σ : List (Str × D)} {ω : List (Str × OC)} {P : D → Prop}
theorem SOk.stepX {B : Bs} {α : Str → Addr} {env : Env} {g g' : PH} {s s' : Shared} (O : SOk p w B α env σ ω g s) (hx : B.xs = [(tabA, tabObj #[])]) (hk₀ : B.k₀ tabA = none) (X : StpX g g' s s') : ∃ ps, SOk p w { B with xs := [(tabA, tabObj ps)] } α env σ ω g' s' := by
  obtain ⟨hT, gT, nT⟩ := O.xs (tabA, tabObj #[]) (by rw [hx]; exact .head _)
  obtain ⟨ps, hT'⟩ := X.tab
  refine ⟨ps, ?_⟩
  obtain ⟨h', tk, rfl⟩ := X.same
  have O₁ := O.dropT (h' := h') (tk := tk) hx hk₀ hT' X.keep X.tks
  have off : ∀ a o, s.heap.get? a = some o → g a = none → g' a = none := fun a o ho hg => by
    cases e : g' a with
    | none => rfl
    | some o' =>
      rcases X.fresh a o' e with q | q
      · rw [hg] at q; cases q
      · rw [ho] at q; cases q
  exact { e := { O₁.e with
                  sub := X.sub
                  gd := O₁.e.gd.mono X.le
                  vars := fun y d hl hk => let ⟨v, hv, r⟩ := O₁.e.vars y d hl hk; ⟨v, hv, r.mono X.le⟩ }
          same := O₁.same, keep := O₁.keep, klt := O₁.klt, le := O₁.le.trans X.le
          fresh := fun a o e => (X.fresh a o e).elim (O.fresh a o) fun q => .inr (O.old a q)
          old := O₁.old, tks := O₁.tks, xs := fun y hy => by
            rw [List.mem_singleton.mp hy]
            exact ⟨hT', off _ _ hT gT, nT⟩
          offL := ⟨by obtain ⟨m, o, _, _, ho, _⟩ := O.e.lns; exact off _ _ ho O.offL.1, O.offL.2⟩
          offC := fun n c hc => ⟨by obtain ⟨v, o, ho, _⟩ := O.e.cells n c hc; exact off _ _ ho (O.offC n c hc).1, (O.offC n c hc).2⟩
          inj := O₁.inj
          own := fun x c hc => by
            obtain ⟨h1, h2, h3, h4⟩ := O₁.own x c hc
            obtain ⟨_, q2, q3, _⟩ := O.own x c hc
            obtain ⟨o, ho⟩ := q2.some
            exact ⟨h1, h2.at X.le fun _ e => e, off _ _ ho q3, h4⟩
          apart := O₁.apart }
/-- x₁, x₂ = the def that makes a lambda (..) -/
theorem wsx_tupX {x₁ x₂ f : Str} {p₁ p₂ np cpos tpos pos : Pos} {j : Nat} {e : Expr} {es : List Expr} {ss : List Stmt} {ds : List D} {d₁ d₂ : D} {fd : FD} (hf : fd ∈ fds p) (hn : fd.name = f) (hkf : sc.names.lookup f = some .globalImplicit) (hargs : Evs p k sc σ (e :: es) ds) (hc : FnDX p k f ds (.tup [d₁, d₂]))
    (he : ∀ env, starEach (e :: es) env = (false, eval e env) :: starEach es env) (hd : (f == ("__debug__" : Str)) = false) (ok : okPs sc [(x₁, .fr d₁), (x₂, .fr d₂)] (σ, ω)) (hrest : Ws p k sc ss ((x₂, d₂) :: (x₁, d₁) :: σ) ω (retOnly P))
    (hs' : ∀ env : Env, env.scope = sc → swapsWithSole [.Tuple [.Name x₁ p₁, .Name x₂ p₂] j tpos] (.Call (.Name f np) (e :: es) [] cpos) pos.line env = pure false)
    (hw : ∀ env : Env, env.scope = sc → swappedStores [.Tuple [.Name x₁ p₁, .Name x₂ p₂] j tpos] (.Call (.Name f np) (e :: es) [] cpos) env = pure none) :
    WsX p k sc false (.Assign [.Tuple [.Name x₁ p₁, .Name x₂ p₂] j tpos] (.Call (.Name f np) (e :: es) [] cpos) pos :: ss) σ ω P := .mk fun w A env B α g s Q E hA hs hx hk _ O hQ => by
  subst hs hn
  obtain ⟨b, mg, mb, hbb, G⟩ := O.e.gd
  have kp : ∀ a o, b.get? a = some o → s.heap.get? a = some o := fun a o e => O.e.sub a o (hbb a o e)
  obtain ⟨a, o, pm, cd, doc, hm, ho, hdat, hcd⟩ := G.fn fd hf
  have F : IsFn p w g fd.name a := ⟨b, mg, mb, hbb, G, hm⟩
  refine wpAny_execs_cons (PyProof.Rows.Assign_Tuple ?_ (hs' env rfl) (hw env rfl))
  refine wpAny_Call_Name_kw (Calls.Name_function_global O.e.kind hkf (Calls.loadGlobal_global (mg := mg) (O.e.glob ▸ G.glob.keeps kp) hm ?_) hd)
  refine Calls.callWith_function (o := o) (wp_args hargs he hA rfl O.e fun vs g₁ s₁ X₁ r₁ => ⟨⟨X₁.keep _ _ (kp _ _ ho), hdat⟩, ?_⟩)
  have O₁ := O.step X₁
  obtain ⟨hTo, gT, nT⟩ := O₁.xs (tabA, tabObj #[]) (by rw [hx]; exact .head _)
  refine hc.go w A g₁ s₁ vs a _ E hA X₁.sub (F.mono X₁.le) O₁.e.tok r₁ gT hTo fun v g₂ s₂ X₂ r₂ => ?_
  obtain ⟨ps, O₂⟩ := O₁.stepX hx hk X₂
  rw [PyProof.Rows.assign_Tuple]
  refine wpAny_bind (wpAny_standAt ?_)
  show wpAny _ A (holding [v] (unpackItems v 2 none) >>= fun vs => assignInOrder _ vs) _ _ _
  refine wpAny_bind (wpAny_holding (wp_unpack (ds := [d₁, d₂]) rfl (.inr rfl) (by simp only [List.length_cons, List.length_nil]; omega) r₂ O₂.e.sub hA.1 fun vs' s₃ X₃ r₃ => ?_))
  have O₃ := O₂.step X₃
  refine wp_pushes [(x₁, .fr d₁), (x₂, .fr d₂)] vs' _ α (σ, ω) s₃ _ (.cons wp_asName (.cons wp_asName .nil)) O₃ ((Made.ofRp (ds := [d₁, d₂]) r₃).pend O₂) ok fun α' s'' O' => ?_
  refine hrest.go w A env _ α' g₂ s'' Q E hA rfl O' fun o f s₄ ho' hm' => ?_
  cases o with
  | ret d =>
    obtain ⟨v', g'', rfl, r, e⟩ := hm'
    exact hQ d v' g'' s₄ ps ho' r e
  | nxt _ _ => exact ho'.elim
theorem g_tupM {α : Type} [Inhabited α] {mk : α → D} {l : List α} {i : Int} (h0 : 0 ≤ i) (h : i.toNat < l.length) (hz : l.length < 2 ^ 62) : OpD p k getItem (.tup (l.map mk)) (.int i) (mk (l.getD i.toNat default)) := g_tup h0 (by rw [List.getElem?_map, List.getD_eq_getElem?_getD, List.getElem?_eq_getElem h]; rfl) (by simpa using hz)
end
end Mine
end
section
open PySem PySem.Calls PyProof.Rows PySem.Spec PySem.W
set_option maxRecDepth 100000
set_option linter.unusedVariables false
namespace Mine
/-- all names are the frame's own, and the two are among them -/
noncomputable def zipOk (scope : Scope) (a d : Str) : Bool := scope.kind == .function && scope.names.all (fun y => y.2 == .local && scope.names.lookup y.1 == some .local) && scope.names.lookup a == some .local && scope.names.lookup d == some .local && !(a == d)
structure ZipOk (scope : Scope) (a d : Str) : Prop where
  kind : scope.kind = .function
  loc : ∀ y ∈ scope.names, y.2 = .local ∧ scope.names.lookup y.1 = some .local
  va : scope.names.lookup a = some .local
  vd : scope.names.lookup d = some .local
  ne : a ≠ d
theorem zipOk.spec {scope : Scope} {a d : Str} (h : zipOk scope a d = true) : ZipOk scope a d := by
  unfold zipOk at h
  simp only [Bool.and_eq_true, List.all_eq_true, Bool.not_eq_true', beq_iff_eq, beq_eq_false_iff_ne] at h
  obtain ⟨⟨⟨⟨h1, h2⟩, h3⟩, h4⟩, h5⟩ := h
  exact ⟨h1, h2, h3, h4, h5⟩
section
variable {p : Program} {k : Nat} {sc : Scope} {σ : List (Str × D)}
theorem zip_env {w : World} {env : Env} {g : PH} {s : Shared} {scope : Scope} {a d : Str} {C : Addr} {m : Str → Option Value} {b c : Bool} (O : EOk p w env σ g s) (ok : ZipOk scope a d)
    (hn : s.heap.Ns C m) (ha : m a = some (.bool b)) (hd : m d = some (.bool c)) :
    EOk p w (compEnvC scope [] C env) [(d, .bool c), (a, .bool b)] g s where
  sub := O.sub
  gd := O.gd
  tok := O.tok
  kind := ok.kind
  glob := O.glob
  blt := O.blt
  lns := ⟨m, hn⟩
  cells := fun n c h => by cases h
  hasc := fun y hy => by
    have key : ∀ k', (relab scope env.scope).names.lookup y = some k' → (k' = .cell ∨ k' = .free) → False := fun k' e hk => by
      obtain ⟨k₀, h, q⟩ := lookup_relab e
      have hmem := mem_of_lookup h
      have := (ok.loc _ hmem).1
      dsimp only at this
      subst this
      rcases q with rfl | ⟨q, _⟩
      · rcases hk with q | q <;> cases q
      · cases q
    rcases hy with hy | hy
    · exact (key _ hy (.inl rfl)).elim
    · exact (key _ hy (.inr rfl)).elim
  vars := fun y e hl hk => by
    have la : (compEnvC scope [] C env).kindOf a = some .local := lookup_relabel_local ok.va
    have ld : (compEnvC scope [] C env).kindOf d = some .local := lookup_relabel_local ok.vd
    rw [List.lookup_cons] at hl
    cases q : y == d with
    | true =>
      rw [q] at hl
      cases hl
      obtain rfl := beq_iff_eq.mp q
      exact ⟨_, .inl ⟨ld, m, hn, hd⟩, .bool⟩
    | false =>
      rw [q] at hl
      dsimp only at hl
      rw [List.lookup_cons] at hl
      cases q' : y == a with
      | true =>
        rw [q'] at hl
        cases hl
        obtain rfl := beq_iff_eq.mp q'
        exact ⟨_, .inl ⟨la, m, hn, ha⟩, .bool⟩
      | false => rw [q'] at hl; cases hl

theorem codeAny_compLoop_pairT {prog : Program} {w : World} {A : Around} {elt iter : Expr} {ifs : List Expr} {elts : List Expr} {x1} {tp : Pos} {scope : Scope} {pos : Pos} {it acc : Value} {env : Env} {R : Result → Shared → Prop} {s : Shared} (I : Nat → Shared → Prop)
    (turn : ∀ n s, I n s → wpAny (model prog w) A (pyNext it) (fun r s₁ => match r with
      | none => R (.ok .next) s₁
      | some v => wpAny (model prog w) A (letOwnedTupleGo (.Tuple elts x1 tp) it v) (fun _ s₁' => wpAny (model prog w) A (assign (.Tuple elts x1 tp) env v) (fun _ s₂ =>
          wpAny (model prog w) A (forIn ifs true fun c r => if r = true then do let ok ← isTrue c env (eval c env); pure (ForInStep.yield ok) else pure (ForInStep.yield r)) (fun ok s₃ => ok = false ∧ ∃ m, m < n ∧ I m s₃)
          (notedBy (model prog w) A env fun e s' => R (.error e) s') s₂)
          (notedBy (model prog w) A env fun e s' => R (.error e) s') s₁') (notedBy (model prog w) A env fun e s' => R (.error e) s') s₁) (notedBy (model prog w) A env fun e s' => R (.error e) s') s)
    (n : Nat) (h : I n s) : codeAny (model prog w) A (.compLoop (.ListComp elt [⟨.Tuple elts x1 tp, iter, ifs, 0⟩] scope pos) 0 it acc env) R s := by
  refine codeAny_loop rfl I (fun n s hI => ?_) n h
  show wpAny _ A ((compTurn (.ListComp elt [⟨.Tuple elts x1 tp, iter, ifs, 0⟩] scope pos) 0 it acc env).onRaise (fun x => do noteFrame x env; theTreesLotGoes x)) _ _ s
  refine wpAny_noted ?_
  rw [compTurn_list]
  refine wpAny_bind (wpAny_standAt (wpAny_bind (wpAny_mono (turn n s hI) (fun r s₁ h₁ => ?_) fun _ _ h' => h')))
  cases r with
  | none => exact wpAny_pure h₁
  | some v =>
    refine wpAny_bind (wpAny_mono h₁ (fun _ s₁' h₁' => ?_) fun _ _ h' => h')
    refine wpAny_bind (wpAny_mono h₁' (fun _ s₂ h₂ => wpAny_bind (wpAny_mono h₂ (fun ok s₃ h₃ => ?_) fun _ _ h' => h')) fun _ _ h' => h')
    obtain ⟨rfl, h₃⟩ := h₃
    exact wpAny_pure ⟨rfl, h₃⟩

theorem RpL.bools {w : World} {g : PH} : ∀ {bs : List Bool} {vs : List Value}, RpL p w g (bs.map D.bool) vs → vs = bs.map Value.bool
  | [], vs, h => by rw [List.map_nil, RpL] at h; subst h; rfl
  | b :: bs, vs, h => by
    rw [List.map_cons, RpL] at h
    obtain ⟨v, vs', rfl, h1, h2⟩ := h
    rw [Rp.bool_iff] at h1
    subst h1
    rw [RpL.bools h2]; rfl

theorem zip_apart {N l1 l2 : Nat} (q1 : l1 < N) (q2 : l2 < N) : ZipApart (N + 4) (N + 2) (N + 3) N (N + 1) l1 l2 := by
  constructor <;> intro q <;> (have q : @Eq Nat _ _ := q) <;> omega
theorem zip_fp {N l1 l2 : Nat} (q1 : l1 < N) (q2 : l2 < N) : ∀ b ∈ ([N + 4, N + 2, N + 3, N, N + 1, l1, l2] : List Addr), @LT.lt Nat _ b (N + 5) := fun b hb => by
  simp only [List.mem_cons, List.not_mem_nil, or_false] at hb
  rcases hb with q | q | q | q | q | q | q <;> (have q : @Eq Nat b _ := q) <;> omega
theorem zip_wr {N : Nat} : ∀ b ∈ ([N + 4, N + 3, N, N + 1] : List Addr), @LE.le Nat _ N b ∧ @LT.lt Nat _ b (N + 5) := fun b hb => by
  simp only [List.mem_cons, List.not_mem_nil, or_false] at hb
  rcases hb with q | q | q | q <;> (have q : @Eq Nat b _ := q) <;> omega
theorem five_six (N : Nat) : ¬ N + 5 = N + 6 := by omega
theorem not_in {N b : Nat} {wr : List Addr} (h : ∀ b ∈ wr, @LE.le Nat _ N b ∧ @LT.lt Nat _ b (N + 5)) (hb : N + 5 ≤ b) : (b : Addr) ∉ wr := fun q => absurd (h _ q).2 (Nat.not_lt.mpr hb)
theorem below_in {N b : Nat} {wr : List Addr} (h : ∀ b ∈ wr, @LE.le Nat _ N b ∧ @LT.lt Nat _ b (N + 5)) (hb : b < N) : (b : Addr) ∉ wr ∧ ¬ b = N + 6 := ⟨fun q => absurd (h _ q).1 (Nat.not_le.mpr hb), Nat.ne_of_lt (Nat.lt_of_lt_of_le hb (Nat.le_add_right _ _))⟩
/-- how things stand between two turns -/
structure ZInv (n : Nat) (s₁ : Shared) (g₁ : PH) (St : Nat → Heap → Prop) (wr : List Addr) (N : Nat) (i : Nat) (h' : Heap) (tk : Nat) (m' : Str → Option Value) (g' : PH) : Prop where
  tks : s₁.toks ≤ tk
  ile : i ≤ n
  st : St i h'
  pl : h'.PlainList (N + 5) #[]
  ns : h'.Ns (N + 6) m'
  keep : ∀ b o, s₁.heap.get? b = some o → h'.get? b = some o
  le : Le g₁ g'
  sub : Sub g' h'
  fresh : ∀ a o, g' a = some o → g₁ a = some o ∨ s₁.heap.get? a = none
  gW : ∀ b ∈ wr, g' b = none
  gD : g' (N + 5) = none
  gC : g' (N + 6) = none
/-- [.. for a, d in zip(x, y) if a is not d], of two lists of the same truths -/
theorem ev_zipSame {elt it1 it2 cnd : Expr} {a d : Str} {pa pd tp zp np pos : Pos} {x1 : Nat} {scope : Scope} {bs : List Bool} (h1 : Ev p k sc σ it1 (.lst (bs.map D.bool))) (h2 : Ev p k sc σ it2 (.lst (bs.map D.bool))) (hsz : bs.length ≤ 1000)
    (hk : sc.names.lookup ("zip" : Str) = some .globalImplicit) (hok : zipOk scope a d = true) (ht : ∀ b : Bool, Et p k (relab scope sc) [(d, .bool b), (a, .bool b)] cnd false)
    (he₁ : ∀ env, starEach [it1, it2] env = (false, eval it1 env) :: starEach [it2] env) (he₂ : ∀ env, starEach [it2] env = (false, eval it2 env) :: starEach [] env) (hst : ∀ env, (starEach [it1, it2] env).any (·.1) = false)
    (hf : ∀ env x, foldedSetIterable (.Call (.Name "zip" np) [it1, it2] [] zp) env x = pure x) :
    EvN p k sc σ (.ListComp elt [⟨.Tuple [.Name a pa, .Name d pd] x1 tp, .Call (.Name "zip" np) [it1, it2] [] zp, [cnd], 0⟩] scope pos) (.lst []) := .mk fun w A env g s Q E hA hs O hQ => by
  subst hs
  have ok := zipOk.spec hok
  have hnof : ∀ y ∈ scope.names, y.2 ≠ .free := fun y hy q => by rw [(ok.loc y hy).1] at q; cases q
  have hnoc : ∀ y ∈ scope.names, y.2 ≠ .cell := fun y hy q => by rw [(ok.loc y hy).1] at q; cases q
  have hcl : closureFor scope env = pure [] := closureFor_none hnof
  rw [eval_ListComp]
  refine wpAny_comprehension_free (use := none) rfl (hf env) hcl ok.kind (fun y hy _ => (ok.loc y hy).2) ?_
  refine wpAny_Call_Name_kw ?_
  obtain ⟨b, mg, mb, hbb, G⟩ := O.gd
  have kp : ∀ a o, b.get? a = some o → s.heap.get? a = some o := fun a o e => O.sub a o (hbb a o e)
  have hx : ("zip" : Str) ∈ blts := by unfold blts; simp
  refine Calls.Name_function_global O.kind hk (Calls.loadGlobal_builtin (mg := mg) (mb := mb) (O.glob ▸ G.glob.keeps kp) (G.miss _ hx) (O.blt ▸ G.blt.keeps kp) ((G.boot _ hx).trans (show _ = some (.type "zip") by rfl)) ?_) (by decide)
  refine PySem.callWith_type (noStar (hst env)) (wp_args (evs_cons h1 (evs_cons h2 evs_nil he₂) he₁) he₁ hA rfl O fun vs g₁ s₁ X₁ r => ?_)
  obtain ⟨v₁, v₂, rfl, r₁, r₂⟩ := r.two_inv
  have O₁ := O.step X₁
  obtain ⟨l1, n1, us1, rfl, gl1, hl1, hr1, ho1⟩ := r₁.isL X₁.sub
  obtain ⟨l2, n2, us2, rfl, gl2, hl2, hr2, ho2⟩ := r₂.isL X₁.sub
  obtain rfl := hr1.bools
  obtain rfl := hr2.bools
  have q1 : @LT.lt Nat _ l1 s₁.heap.objs.size := Heap.lt_size ho1
  have q2 : @LT.lt Nat _ l2 s₁.heap.objs.size := Heap.lt_size ho2
  refine call_zip_2 hl1 hl2 fun hz₂ hzip hTI hTO hi1 hi2 hsz₂ hkz => ?_
  refine wpAny_pyIter_zip (s := { s₁ with heap := hz₂ }) hzip ?_
  have D : ZipApart (s₁.heap.objs.size + 4) (s₁.heap.objs.size + 2) (s₁.heap.objs.size + 3) s₁.heap.objs.size (s₁.heap.objs.size + 1) l1 l2 := zip_apart q1 q2
  have W := WalksT.zip2 (prog := p) (w := w) (A := A) hA.1 _ _ _ _ _ _ _ D ((bs.map Value.bool).toArray) ((bs.map Value.bool).toArray)
  have hmin : min (bs.map Value.bool).toArray.size (bs.map Value.bool).toArray.size = bs.length := by simp
  rw [hmin] at W
  generalize hN : s₁.heap.objs.size = N at *
  have fplt := zip_fp q1 q2
  have wrge := zip_wr (N := N)
  generalize [N + 4, N + 2, N + 3, N, N + 1, l1, l2] = fp at W fplt
  generalize hwr : [N + 4, N + 3, N, N + 1] = wr at W wrge
  generalize hSt : (fun i h => IsZip h (N + 4) (N + 2) (N + 3) .none ∧ IsPair h (N + 2) (.ref N) (.ref (N + 1)) ∧ (∃ a b, IsPair h (N + 3) a b) ∧ h.IsListIter N l1 i ∧ h.IsListIter (N + 1) l2 i ∧ h.IsList l1 (bs.map Value.bool).toArray ∧ h.IsList l2 (bs.map Value.bool).toArray) = St at W
  have hst : St 0 hz₂ := by
    rw [← hSt]
    exact ⟨hzip, hTI, ⟨_, _, hTO⟩, hi1, hi2, hl1.at fun o e => hkz _ o e, hl2.at fun o e => hkz _ o e⟩
  have fresh : ∀ a, N ≤ a → s₁.heap.get? a = none := fun a ha => by
    cases e : s₁.heap.get? a with
    | none => rfl
    | some o' => exact absurd (Heap.lt_size e) (by rw [hN]; exact Nat.not_lt.mpr ha)
  have gnone : ∀ a, N ≤ a → g₁ a = none := fun a ha => by
    cases e : g₁ a with
    | none => rfl
    | some o => have := X₁.sub a o e; rw [fresh a ha] at this; cases this
  refine wpAny_newObj_type (wpAny_newFunctionEnv hnoc (by intro y hy; simp at hy) (fun h₁ hns₁ hsb₁ => ?_) ok.kind)
  dsimp only at hns₁ hsb₁ ⊢
  generalize hH2 : hz₂.push { cls := .type "list", dict := none, data := .seq ([] : List Value).toArray } = H2 at hns₁ hsb₁ ⊢
  have hC : H2.objs.size = N + 6 := by rw [← hH2, Heap.size_push, hsz₂]
  rw [hC] at hns₁ hsb₁ ⊢
  rw [hsz₂]
  have old : ∀ b o, hz₂.get? b = some o → h₁.get? b = some o := fun b o e => hsb₁.extBut b o (by have := Heap.lt_size e; rw [hsz₂] at this; exact Nat.ne_of_lt (Nat.lt_succ_of_lt this)) (Heap.get?_push_of_some _ (hH2 ▸ Heap.get?_push_of_some _ e))
  have hDg : H2.get? (N + 5) = some { cls := .type "list", dict := none, data := .seq ([] : List Value).toArray } := by
    have := Heap.get?_push_size hz₂ (o := { cls := .type "list", dict := none, data := .seq ([] : List Value).toArray }) rfl
    rw [hsz₂, hH2] at this
    exact this
  have hacc : h₁.PlainList (N + 5) #[] := ⟨0, hsb₁.extBut _ _ (five_six N) (Heap.get?_push_of_some _ hDg)⟩
  have hst₁ : St 0 h₁ := W.frame _ _ _ hst fun b _ o e => old b o e
  have nD : ∀ b, b < N + 5 → b ≠ N + 5 ∧ b ≠ N + 6 := fun b hb => ⟨Nat.ne_of_lt hb, Nat.ne_of_lt (Nat.lt_succ_of_lt hb)⟩
  have hDC : (N + 5 : Nat) ≠ N + 6 := five_six N
  have loop : ∀ s₃ : Shared, s₃ = { s₁ with heap := h₁, toks := s₁.toks + ([] : List (Str × Value)).length } →
      codeAny (model p w) A (.compLoop (.ListComp elt [⟨.Tuple [.Name a pa, .Name d pd] x1 tp, .Call (.Name "zip" np) [it1, it2] [] zp, [cnd], 0⟩] scope pos) 0 (.ref (N + 4)) (.ref (N + 5)) (compEnvC scope [] (N + 6) env))
        (compPost (model p w) A E none Q (.ref (N + 5)) (N + 6)) s₃ := by
    rintro s₃ rfl
    refine codeAny_compLoop_pairT
      (fun j s' => ∃ h' tk i m' g', s' = { s₁ with heap := h', toks := tk } ∧ j = bs.length + 1 - i ∧ ZInv bs.length s₁ g₁ St wr N i h' tk m' g') ?_ (bs.length + 1)
      ⟨h₁, s₁.toks + ([] : List (Str × Value)).length, 0, _, g₁, rfl, rfl, ⟨Nat.le_add_right _ _, Nat.zero_le _, hst₁, hacc, hns₁, fun b o e => old b o (hkz b o e), .refl g₁, fun a o e => old a o (hkz _ _ (X₁.sub a o e)), fun a o e => .inl e, fun b hb => gnone b (wrge b hb).1, gnone _ (Nat.le_add_right _ _), gnone _ (Nat.le_add_right _ _)⟩⟩
    rintro j s' ⟨h', tk, i, m', g', rfl, rfl, ⟨htk, hi, hst', hpl, hn', hk, hle, hsub, hfr, gW, gD, gC⟩⟩
    by_cases hlt : i < bs.length
    · refine wpAny_with_toks (n := s₁.toks) htk (W.item i _ _ _ hlt hst' fun T vals h₂ tk₂ hPv hTs hT hmid hk₂ htk₂ => ?_)
      obtain ⟨x, y, hx, hy, rfl⟩ := hPv
      have hxy : x = .bool bs[i] ∧ y = .bool bs[i] := by
        rw [List.getElem?_toArray, List.getElem?_map, List.getElem?_eq_getElem hlt] at hx hy
        exact ⟨(Option.some.inj hx).symm, (Option.some.inj hy).symm⟩
      obtain ⟨rfl, rfl⟩ := hxy
      refine W.go _ _ _ i T _ _ _ hmid fun h₃ hst₃ hk₃ => ?_
      have hTw := W.apart _ _ _ hmid
      have hT₃ : h₃.IsTuple T #[.bool bs[i], .bool bs[i]] := hT.at fun o e => hk₃ T o hTw e
      have up : ∀ b o, b ∉ wr → h'.get? b = some o → h₃.get? b = some o := fun b o q e => hk₃ b o q (hk₂ b o q e)
      have hCw : (N + 6) ∉ wr := not_in wrge (Nat.le_succ _)
      have hDw : (N + 5) ∉ wr := not_in wrge (Nat.le_refl _)
      have hn₃ : h₃.Ns (N + 6) m' := hn'.at' fun o e => up _ o hCw e
      refine wpAny_with_toks (n := s₁.toks) htk₂ (kcp_assign (s := { s₁ with heap := h₃, toks := tk₂ }) hA.1 hT₃ (lookup_relabel_local ok.va) (lookup_relabel_local ok.vd) (by simp [compEnvC, relabel, ok.kind]) hn₃ fun h₄ tk₄ hn₄ hk₄ htk₄ => ?_)
      have up₄ : ∀ b o, b ∉ wr → b ≠ N + 6 → h'.get? b = some o → h₄.get? b = some o := fun b o q1 q2 e => hk₄ b o q2 (up b o q1 e)
      have ne₀ : ∀ b o, s₁.heap.get? b = some o → b ∉ wr ∧ b ≠ N + 6 := fun b o e => by
        have hb := Heap.lt_size e
        rw [hN] at hb
        exact below_in wrge hb
      have neg : ∀ b o, g' b = some o → b ∉ wr ∧ b ≠ N + 6 := fun b o e => ⟨(fun q => by rw [gW b q] at e; cases e), (fun q => by rw [q, gC] at e; cases e)⟩
      have O₃ : EOk p w env σ g' { s₁ with heap := h₄, toks := tk₄ } := O₁.step ⟨hle, fun b o e => up₄ b o (neg b o e).1 (neg b o e).2 (hsub b o e), hfr, fun b o e => up₄ b o (ne₀ b o e).1 (ne₀ b o e).2 (hk b o e), ⟨_, _, rfl⟩, htk₄⟩
      have C₃ := zip_env (a := a) (d := d) (b := bs[i]) (c := bs[i]) O₃ ok hn₄ (by simp [ok.ne]) (by simp)
      refine (ets_one (ht bs[i])).go w A _ g' _ _ _ hA (relab_eq scope env) C₃ fun g₅ s₅ x₅ => ⟨rfl, bs.length + 1 - (i + 1), Nat.sub_lt_sub_left (Nat.lt_succ_of_lt hlt) (Nat.lt_succ_self i), ?_⟩
      have hst₄ : St (i + 1) h₄ := W.frame _ _ _ hst₃ fun b hb o e => hk₄ b o (fun q => absurd (q ▸ fplt b hb) (Nat.not_lt.mpr (Nat.le_succ _))) e
      obtain ⟨nP, hP⟩ := hpl
      have hP₄ := up₄ _ _ hDw hDC hP
      obtain ⟨oC, _, _, hoC, _⟩ := id hn₄
      have hobj : ∀ b ∈ wr, ∃ o, h₄.get? b = some o := fun b hb => by
        have hne : b ≠ N + 6 := (nD b (wrge b hb).2).2
        have : ∃ o, h₃.get? b = some o := by
          rw [← hSt] at hst₃
          obtain ⟨z1, z2, ⟨_, _, z3⟩, ⟨_, z4, _⟩, ⟨_, z5, _⟩, _⟩ := hst₃
          rw [← hwr] at hb
          simp only [List.mem_cons, List.not_mem_nil, or_false] at hb
          rcases hb with rfl | rfl | rfl | rfl
          · exact ⟨_, z1⟩
          · exact ⟨_, z3⟩
          · exact ⟨_, z4⟩
          · exact ⟨_, z5⟩
        obtain ⟨o, ho⟩ := this
        exact ⟨o, hk₄ b o hne ho⟩
      obtain ⟨h₅, tk₅, hs₅⟩ := x₅.same
      refine ⟨s₅.heap, s₅.toks, i + 1, _, g₅, by rw [hs₅], rfl, ⟨Nat.le_trans htk₄ x₅.tks, hlt, W.frame _ _ _ hst₄ fun b _ o e => x₅.keep b o e, ⟨nP, x₅.keep _ _ hP₄⟩, hn₄.keeps x₅.keep,
        fun b o e => x₅.keep b o (up₄ b o (ne₀ b o e).1 (ne₀ b o e).2 (hk b o e)), hle.trans x₅.le, x₅.sub, fun b o e => (x₅.fresh b o e).elim (hfr b o) fun q => .inr ?_, fun b hb => let ⟨o, ho⟩ := hobj b hb; off_step x₅ (gW b hb) ho, off_step x₅ gD hP₄, off_step x₅ gC hoC⟩⟩
      exact none_of_keep (fun b o e => up₄ b o (ne₀ b o e).1 (ne₀ b o e).2 (hk b o e)) q
    · obtain rfl : i = bs.length := Nat.le_antisymm hi (Nat.not_lt.mp hlt)
      refine wpAny_with_toks (n := s₁.toks) htk (W.done _ _ _ hst' fun h₂ tk₂ hk₂ htk₂ => ?_)
      obtain ⟨nP, hP⟩ := hpl
      have hCw : (N + 6) ∉ wr := not_in wrge (Nat.le_succ _)
      have hDw : (N + 5) ∉ wr := not_in wrge (Nat.le_refl _)
      refine ⟨m', hn'.at' fun o e => hk₂ _ o hCw e, fun h'' hs'' => ?_⟩
      have hP₂ := hs''.extBut _ _ hDC (hk₂ _ _ hDw hP)
      have hle₂ := PH.put_le (o := lstO [] nP) gD
      have low : ∀ b o, s₁.heap.get? b = some o → b ∉ wr ∧ b ≠ N + 6 := fun b o e => by
        have hb := Heap.lt_size e
        rw [hN] at hb
        exact below_in wrge hb
      refine hQ (N + 5) (g'.put (N + 5) (lstO [] nP)) _ (none_of_keep X₁.keep (fresh _ (Nat.le_add_right _ _))) (X₁.trans ⟨hle.trans hle₂, fun b o e => ?_, fun b o e => ?_, fun b o e => hs''.extBut b o (low b o e).2 (hk₂ b o (low b o e).1 (hk b o e)), ⟨_, _, rfl⟩, htk₂⟩) (.lst (PH.put_self _ _ _) (.nil _))
      · unfold PH.put at e
        split at e
        · rename_i q; subst q; cases e; exact hP₂
        · exact hs''.extBut b o (fun q => by rw [q, gC] at e; cases e) (hk₂ b o (fun q => by rw [gW b q] at e; cases e) (hsub b o e))
      · unfold PH.put at e
        split at e
        · rename_i q; subst q; exact .inr (fresh _ (Nat.le_add_right _ _))
        · exact hfr b o e
  exact codeAny_compStart_list (loop _ rfl) (W.self 0 _ _ _ hst₁ (loop _ rfl))
end
end Mine
end
section
open PySem PySem.Calls PyProof.Rows
set_option maxRecDepth 100000
set_option linter.unusedVariables false
namespace Mine
noncomputable abbrev P0 : Program := PySem.Challenge.pw_rw0034_01
noncomputable def fdN (n : Nat) : FD := (fds P0).getD n ⟨"", ⟨[], [], none, [], [], none, []⟩, [], default⟩
theorem fdN_mem {n : Nat} (h : n < (fds P0).length) : fdN n ∈ fds P0 := by unfold fdN; rw [List.getD_eq_getElem?_getD, List.getElem?_eq_getElem h]; exact List.getElem_mem h
theorem lk_here {α : Type} {x : Str} {d : α} {σ : List (Str × α)} : ((x, d) :: σ).lookup x = some d := by simp
theorem lk_there {α : Type} {x y : Str} {e d : α} {σ : List (Str × α)} (h : (x == y) = false) (t : σ.lookup x = some d) : ((y, e) :: σ).lookup x = some d := by rw [List.lookup_cons, h]; exact t
theorem andThen_nxt {F : List (Str × D) → List (Str × OC) → Prop} {P : Out → Prop} {σ : List (Str × D)} {ω : List (Str × OC)} (h : F σ ω) : andThen F P (.nxt σ ω) := h
theorem andThen_ret {F : List (Str × D) → List (Str × OC) → Prop} {P : Out → Prop} {d : D} (h : P (.ret d)) : andThen F P (.ret d) := h
theorem ws_start {k : Nat} {sc : Scope} {body : List Stmt} {σ : List (Str × D)} {ω : List (Str × OC)} {P : Out → Prop} (h : ∃ st ss, body = st :: ss ∧ Wx P0 k sc st σ ω (andThen (fun σ' ω' => Ws P0 k sc ss σ' ω' P) P)) : Ws P0 k sc body σ ω P := by
  obtain ⟨st, ss, rfl, hx⟩ := h
  exact ws_cons hx
theorem mul_okL {x y : Int} (h1 : -1000000 < x) (h2 : x < 1000000) : IntMulOk x y := .of_left (intBits_le_64 (by omega) (by omega))
theorem mul_okR {x y : Int} (h1 : -1000000 < y) (h2 : y < 1000000) : IntMulOk x y := .of_right (intBits_le_64 (by omega) (by omega))
theorem own_lst {k : Nat} {sc : Scope} {σ : List (Str × D)} {e : Expr} {l : List D} (h : EvN P0 k sc σ e (.lst l)) (hf : flatL l = true) : EvOwn P0 k sc σ e (.lst l) := EvN.own (c := .lst l) h hf fun _ _ _ => trivial
theorem own_dct {k : Nat} {sc : Scope} {σ : List (Str × D)} {pos : Pos} : EvOwn P0 k sc σ (.Dict [] [] pos) (.dct [] []) := EvN.own (c := .dct [] []) ev_dict0 rfl fun _ _ _ => trivial
theorem mapAt {α : Type} {mk : α → D} {l : List α} {i : Nat} {e : D} (h : (l.map mk)[i]? = some e) : ∃ a, l[i]? = some a ∧ e = mk a := by
  rw [List.getElem?_map, Option.map_eq_some_iff] at h
  obtain ⟨a, h1, h2⟩ := h
  exact ⟨a, h1, h2.symm⟩
theorem take_map_succ {α β : Type} {l : List α} {f : α → β} {i : Nat} {a : α} (h : l[i]? = some a) : (l.take (i + 1)).map f = (l.take i).map f ++ [f a] := by
  rw [List.take_add_one, h]; simp
theorem int_fun (env : Env) (sc : Scope) (hs : env.scope = sc) (hk : env.scope.kind = .function) : interactive env = false := by
  unfold interactive; rw [hk]; rfl
theorem erase_map {α β : Type} {f : α → β} : ∀ {l : List α} {i : Nat}, (l.map f).eraseIdx i = (l.eraseIdx i).map f
  | [], i => by simp
  | a :: l, 0 => by simp
  | a :: l, i + 1 => by simp [erase_map]
theorem len_app (x y : Str) : (x ++ y).length = x.length + y.length := by
  show (x.cps ++ y.cps).size = x.cps.size + y.cps.size
  exact Array.size_append ..
noncomputable abbrev bl (l : List Bool) : D := .lst (l.map D.bool)
theorem bind1 {fd : FD} (h : ∀ pm cd doc a, bindArgs (docDef fd.name fd.params fd.body fd.scope pm cd doc) ⟨[a], []⟩ = pure ((fd.params.args.map (·.arg)).zip [a])) :
    ∀ pm cd doc (vs : List Value), vs.length = 1 → bindArgs (docDef fd.name fd.params fd.body fd.scope pm cd doc) ⟨vs, []⟩ = pure ((fd.params.args.map (·.arg)).zip vs) := fun pm cd doc vs hv => by
  match vs, hv with
  | [a], _ => exact h pm cd doc a
theorem bind2 {fd : FD} (h : ∀ pm cd doc a b, bindArgs (docDef fd.name fd.params fd.body fd.scope pm cd doc) ⟨[a, b], []⟩ = pure ((fd.params.args.map (·.arg)).zip [a, b])) :
    ∀ pm cd doc (vs : List Value), vs.length = 2 → bindArgs (docDef fd.name fd.params fd.body fd.scope pm cd doc) ⟨vs, []⟩ = pure ((fd.params.args.map (·.arg)).zip vs) := fun pm cd doc vs hv => by
  match vs, hv with
  | [a, b], _ => exact h pm cd doc a b
theorem bind3 {fd : FD} (h : ∀ pm cd doc a b c, bindArgs (docDef fd.name fd.params fd.body fd.scope pm cd doc) ⟨[a, b, c], []⟩ = pure ((fd.params.args.map (·.arg)).zip [a, b, c])) :
    ∀ pm cd doc (vs : List Value), vs.length = 3 → bindArgs (docDef fd.name fd.params fd.body fd.scope pm cd doc) ⟨vs, []⟩ = pure ((fd.params.args.map (·.arg)).zip vs) := fun pm cd doc vs hv => by
  match vs, hv with
  | [a, b, c], _ => exact h pm cd doc a b c
noncomputable def vF (m1 m2 hue : UInt64) : UInt64 :=
  let h := (Float64.divmod hue 4607182418800017408).2
  if Float64.cmp h 4595172819793696085 == some .lt then Float64.add m1 (Float64.mul (Float64.mul (Float64.sub m2 m1) h) 4618441417868443648)
  else if Float64.cmp h 4602678819172646912 == some .lt then m2
  else if Float64.cmp h 4604180019048437077 == some .lt then Float64.add m1 (Float64.mul (Float64.mul (Float64.sub m2 m1) (Float64.sub 4604180019048437077 h)) 4618441417868443648)
  else m1

theorem ev_def {k : Nat} {sc : Scope} {σ : List (Str × D)} (n : Nat) (hm : n < (fds P0).length) {f : Str} (hn : (fdN n).name = f) {np pos : Pos} {e : Expr} {es : List Expr} {ds : List D} {d : D} (hk : sc.names.lookup f = some .globalImplicit) (hargs : Evs P0 k sc σ (e :: es) ds) (hc : FnD P0 k f ds d)
    (he : ∀ env, starEach (e :: es) env = (false, eval e env) :: starEach es env) (hd : (f == ("__debug__" : Str)) = false) : Ev P0 k sc σ (.Call (.Name f np) (e :: es) [] pos) d := ev_call (fdN_mem hm) hn hk hargs hc he hd
noncomputable def hlsF (h l s : UInt64) : List UInt64 :=
  if Float64.cmp s 0 == some .eq then [l, l, l] else
  let m2 := if Float64.cmp l 4602678819172646912 == some .lt || Float64.cmp l 4602678819172646912 == some .eq then Float64.mul l (Float64.add 4607182418800017408 s) else Float64.sub (Float64.add l s) (Float64.mul l s)
  let m1 := Float64.sub (Float64.mul 4611686018427387904 l) m2
  [vF m1 m2 (Float64.add h 4599676419421066581), vF m1 m2 h, vF m1 m2 (Float64.sub h 4599676419421066581)]
noncomputable def rgbOk (r g b : UInt64) : Bool :=
  let mx := maxF r g b
  let mn := minF r g b
  let su := Float64.add mx mn
  let ra := Float64.sub mx mn
  let l := Float64.div su 4611686018427387904
  if Float64.cmp mn mx == some .eq then true else
  Float64.isZero ra == false && (if Float64.cmp l 4602678819172646912 == some .lt || Float64.cmp l 4602678819172646912 == some .eq then Float64.isZero su == false else Float64.isZero (Float64.sub (Float64.sub 4611686018427387904 mx) mn) == false)
noncomputable def rgbF (r g b : UInt64) : List UInt64 :=
  let mx := maxF r g b
  let mn := minF r g b
  let su := Float64.add mx mn
  let ra := Float64.sub mx mn
  let l := Float64.div su 4611686018427387904
  if Float64.cmp mn mx == some .eq then [0, l, 0] else
  let s := if Float64.cmp l 4602678819172646912 == some .lt || Float64.cmp l 4602678819172646912 == some .eq then Float64.div ra su else Float64.div ra (Float64.sub (Float64.sub 4611686018427387904 mx) mn)
  let rc := Float64.div (Float64.sub mx r) ra
  let gc := Float64.div (Float64.sub mx g) ra
  let bc := Float64.div (Float64.sub mx b) ra
  let h := if Float64.cmp r mx == some .eq then Float64.sub bc gc else if Float64.cmp g mx == some .eq then Float64.sub (Float64.add 4611686018427387904 rc) bc else Float64.sub (Float64.add 4616189618054758400 gc) rc
  [(Float64.divmod (Float64.div h 4618441417868443648) 4607182418800017408).2, l, s]

noncomputable def leftL : List Str := ["&", "<", ">", "\"", "\r", "\n", "\t", "b"]
noncomputable def signsF (q : Int) : List Str := popsL leftL [(q.fmod 8).toNat, ((q.fdiv 8).fmod 7).toNat, ((q.fdiv 56).fmod 6).toNat, ((q.fdiv 336).fmod 5).toNat, ((q.fdiv 1680).fmod 4).toNat]
noncomputable def tabL : List (Str × Str) := [("&", "&amp;"), ("<", "&lt;"), (">", ">"), ("\"", "&quot;"), ("\r", "&#xD;"), ("\n", "&#xA;"), ("\t", "&#x9;"), ("b", "b")]
noncomputable def spellL (x : Str) : List Str := x.cps.toList.map fun c => (tabL.lookup ⟨#[c]⟩).getD ""
noncomputable def spellF (x : Str) : Str := Txt.join "" (spellL x)
noncomputable def escStep (y z x : Str) : Str := if Txt.contains x y then Txt.replace x y z else x
noncomputable def esc1 (x : Str) : Str := escStep "&" "&amp;" x
noncomputable def esc2 (x : Str) : Str := escStep "<" "&lt;" (esc1 x)
noncomputable def esc3 (x : Str) : Str := escStep "\"" "&quot;" (esc2 x)
noncomputable def esc4 (x : Str) : Str := escStep "\t" "&#x9;" (esc3 x)
noncomputable def esc5 (x : Str) : Str := escStep "\n" "&#xA;" (esc4 x)
noncomputable def escF (x : Str) : Str := escStep "\r" "&#xD;" (esc5 x)
theorem sd1 {n : Nat} : (0 : Int) ≤ (n : Int) := Int.natCast_nonneg n
theorem sd2 {α : Type} {l : List α} {m : Nat} (h : l.length = m) (hm : Nat.ble m 1000 = true) : l.length < 2 ^ 62 := by rw [h]; exact Nat.lt_of_le_of_lt (Nat.ble_eq.mp hm) (by decide)
theorem sd3 {α : Type} {l : List α} {m : Nat} (h : l.length = m) (hm : Nat.ble m 1000 = true) : l.length ≤ sizeLine := by rw [h]; exact Nat.le_trans (Nat.ble_eq.mp hm) (by decide +kernel)
theorem sd4 {α : Type} {l : List α} {x m k : Nat} (h : l.length = m) (hx : x < k) (hk : Nat.ble k m = true) : (x : Int).toNat < l.length := by rw [h, Int.toNat_natCast]; exact Nat.lt_of_lt_of_le hx (Nat.ble_eq.mp hk)
theorem sd6 {α : Type} {l : List α} {m : Nat} (h : l.length ≤ m) (hm : Nat.ble m 1000000 = true) : l.length ≤ sizeLine := Nat.le_trans (Nat.le_trans h (Nat.ble_eq.mp hm)) (by decide +kernel)
theorem bnd_le {a A M : Nat} (h : a ≤ A) (hA : Nat.ble A M = true) : a ≤ M := Nat.le_trans h (Nat.ble_eq.mp hA)
theorem bnd_lt {a A M : Nat} (h : a ≤ A) (hA : Nat.ble (A + 1) M = true) : a < M := Nat.lt_of_le_of_lt h (Nat.ble_eq.mp hA)
theorem app_le {x y : Str} {A B : Nat} (h1 : x.length ≤ A) (h2 : y.length ≤ B) : (x ++ y).length ≤ A + B := by rw [len_app]; exact Nat.add_le_add h1 h2
theorem lapp_le {α : Type} {x y : List α} {A B : Nat} (h1 : x.length ≤ A) (h2 : y.length ≤ B) : (x ++ y).length ≤ A + B := by rw [List.length_append]; exact Nat.add_le_add h1 h2
theorem lcons_le {α : Type} {a : α} {x : List α} {A : Nat} (h1 : x.length ≤ A) : (a :: x).length ≤ A + 1 := Nat.succ_le_succ h1
theorem lmap_le {α β : Type} {f : α → β} {x : List α} {A : Nat} (h1 : x.length ≤ A) : (x.map f).length ≤ A := by rw [List.length_map]; exact h1
theorem lrev_le {α : Type} {x : List α} {A : Nat} (h1 : x.length ≤ A) : x.reverse.length ≤ A := by rw [List.length_reverse]; exact h1
/-- the walk's words: what is tried in turn -/
def macTab : List (String × String) := [
  ("mside", "A|K|e sd1|S sd2|S sd3|S sd4|S sd6|a bnd_le mbnd !|a bnd_lt mbnd !|O|M mul_okL|M mul_okR|w muser|x|y"),
  ("mbnd", "A|q|s Nat.add_le_add mbnd|s app_le mbnd|s lapp_le mbnd|t lcons_le mbnd|t lmap_le mbnd|t lrev_le mbnd|e Nat.le.refl"),
  ("mlk", "e lk_here|a lk_there ! mlk"),
  ("mop", "e f_add|e f_sub|e f_mul|e f_lt|e f_gt|e f_le|e f_ge|e f_eq|t f_div mside|t f_mod mside|e o_add|e o_sub|e o_lt|e o_gt|e o_ge|e o_eq|e o_ne|t o_mul mside|t o_mod mside|s o_fdiv mside|s o_pow2 mside|e s_in|e s_notIn|e s_eq|e b_isNot|e o_iadd|e o_isub|t fi_sub mside|s if_div mside|e li_in|e li_notIn|e li_eq|e li_ne|e ls_ne|t lm_add mside|s s_add mside"),
  ("mget", "s g_listA mside|s g_tab mside|s g_dct mside|s g_tupM mside|s g_tupA mside"),
  ("mconst", "e List.mem_cons_self|t List.mem_cons_of_mem mconst"),
  ("mevo", "e evo_none|t evo_some mev"),
  ("mevs", "e evs_nil|a evs_cons mev mevs mrfl"),
  ("mevsI", "e evsI_nil|a evsI_cons mev mevsI mrfl"),
  ("mevsS", "e evsS_nil|a evsS_cons mev mevsS mrfl"),
  ("mcall", "e c_sum|e c_max2|e c_min2|e c_max3|e c_min3|e c_abs|s c_len_list mside|s c_len_str mside|s c_range mside|s c_min_list mside|s c_int mside"),
  ("mev", "e ev_int|e ev_flt|e ev_str|e ev_bool|e ev_none|a ev_name mlk !|a ev_const c ! !|w muev|a ev_binop mev mev mop|a ev_unary mev N|a ev_cmp mev mev mop u|a ev_len ! mevs mcall mrfl mrfl|a ev_sum ! mevs mcall mrfl mrfl|a ev_min ! mevs mcall mrfl mrfl|a ev_max ! mevs mcall mrfl mrfl|a ev_abs ! mevs mcall mrfl mrfl|a ev_range ! mevs mcall mrfl mrfl|a ev_intC ! mevs mcall mrfl mrfl|n ev_revM mev mside|n ev_sliceM mev mevo mevo mevo ! mside|n ev_listI mevsI mside|n ev_listS mevsS mside|a ev_ifM met mev mev|n ev_tuple mevs mside|a ev_sub mev mev r mget mrfl"),
  ("met", "w muet|a et_cmp mev mev mop u|a et_not met")]
end Mine
end
section
open PySem PySem.Calls PyProof.Rows
set_option maxRecDepth 100000
set_option linter.unusedVariables false
namespace Mine
local macro_rules | `(tactic| walk_at "mrfl") => `(tactic| first | (intro _; rfl) | (intro _ _; rfl) | rfl | with_unfolding_all rfl)
local macro_rules
  | `(tactic| walk_at $k:str) => do
    let some (_, v) := macTab.find? (·.1 == k.getString) | Lean.Macro.throwUnsupported
    let goal (g : String) : Lean.MacroM (Lean.TSyntax `tactic) := match g with
      | "!" => `(tactic| (· decide +kernel))
      | "r" => `(tactic| (· rfl))
      | "u" => `(tactic| (· with_unfolding_all rfl))
      | "N" => `(tactic| (· with_reducible exact o_neg))
      | "c" => `(tactic| (· unfold consts; walk_at "mconst"))
      | g => `(tactic| (· walk_at $(Lean.Syntax.mkStrLit g)))
    let alts ← (v.splitOn "|").toArray.mapM fun s => do
      let ws := s.splitOn " "
      let i := Lean.mkIdent (ws.getD 1 "").toName
      let n := Lean.Syntax.mkStrLit (ws.getD 2 "")
      let gs ← (ws.drop 2).toArray.mapM goal
      match ws.headD "" with
      | "e" => `(Lean.Parser.Tactic.tacticSeq| with_reducible exact $i)
      | "t" => `(Lean.Parser.Tactic.tacticSeq| ((with_reducible apply $i); walk_at $n))
      | "s" => `(Lean.Parser.Tactic.tacticSeq| ((with_reducible apply $i) <;> walk_at $n))
      | "A" => `(Lean.Parser.Tactic.tacticSeq| assumption)
      | "K" => `(Lean.Parser.Tactic.tacticSeq| decide +kernel)
      | "O" => `(Lean.Parser.Tactic.tacticSeq| omega)
      | "q" => `(Lean.Parser.Tactic.tacticSeq| (apply Nat.le_of_eq; assumption))
      | "S" => `(Lean.Parser.Tactic.tacticSeq| ((with_reducible apply $i) <;> first | assumption | decide +kernel))
      | "M" => `(Lean.Parser.Tactic.tacticSeq| ((with_reducible apply $i) <;> first | decide +kernel | omega))
      | "x" => `(Lean.Parser.Tactic.tacticSeq| (simp only [List.length_map, List.length_range]; first | decide +kernel | omega | assumption))
      | "y" => `(Lean.Parser.Tactic.tacticSeq| (simp only [List.length_cons, List.length_nil]; decide +kernel))
      | "w" => `(Lean.Parser.Tactic.tacticSeq| walk_at $(Lean.Syntax.mkStrLit (ws.getD 1 "")))
      | "n" => `(Lean.Parser.Tactic.tacticSeq| ((with_reducible apply EvN.ev); (with_reducible apply $i); $[$gs];*))
      | _ => `(Lean.Parser.Tactic.tacticSeq| ((with_reducible apply $i); $[$gs];*))
    `(tactic| first $[| $alts]*)
local macro_rules | `(tactic| walk_at "mgo") => `(tactic| first
  | ((with_reducible apply ws_cons); walk_at "mgo")
  | ((with_reducible apply ws_nil); (with_reducible apply andThen_nxt); (try dsimp only); walk_at "mgo")
  | ((with_reducible apply wx_assign); (· walk_at "mev"); (· decide +kernel); (· rfl); rotate_left; (· intro env he; rfl); (with_reducible apply andThen_nxt); (try dsimp only); walk_at "mgo")
  | ((with_reducible apply wx_if); (· walk_at "met"); all_goals (intro hc; walk_at "mgo"))
  | ((with_reducible apply wx_return); (· walk_at "mev"); (repeat (with_reducible apply andThen_ret)))
  | skip)
section
set_option maxHeartbeats 1000000 in
theorem fn_v {k : Nat} (m1 m2 hue : UInt64) : FnD P0 (k + 1) "_v" [.flt m1, .flt m2, .flt hue] (.flt (vF m1 m2 hue)) := by
  refine fn_intro (fd := fdN 2) (fdN_mem (by decide +kernel)) (bind3 (by intros; kernel_rfl)) rfl (by decide +kernel) (by decide +kernel) (by decide +kernel) (by decide +kernel) (by decide +kernel) (by decide +kernel) ?_
  show Ws P0 k _ _ [("m1", .flt m1), ("m2", .flt m2), ("hue", .flt hue)] [] _
  unfold vF
  apply ws_cons
  walk_at "mgo"
  all_goals simp_all
end
section
theorem ev_v {k : Nat} {sc : Scope} {σ : List (Str × D)} {np pos : Pos} {e : Expr} {es : List Expr} {m1 m2 hue : UInt64} (hk : sc.names.lookup ("_v" : Str) = some .globalImplicit) (hargs : Evs P0 (k + 1) sc σ (e :: es) [.flt m1, .flt m2, .flt hue])
    (he : ∀ env, starEach (e :: es) env = (false, eval e env) :: starEach es env) : Ev P0 (k + 1) sc σ (.Call (.Name "_v" np) (e :: es) [] pos) (.flt (vF m1 m2 hue)) := ev_def 2 (by decide +kernel) (by decide +kernel) hk hargs (fn_v m1 m2 hue) he (by decide +kernel)
local macro_rules | `(tactic| walk_at "muev") => `(tactic| ((with_reducible apply ev_v); (· decide +kernel); (· walk_at "mevs"); (· walk_at "mrfl")))
set_option maxHeartbeats 4000000 in
theorem fn_hls {k : Nat} (h l s : UInt64) : FnD P0 (k + 2) "hls_to_rgb" [.flt h, .flt l, .flt s] (.tup ((hlsF h l s).map D.flt)) := by
  refine fn_intro (fd := fdN 1) (fdN_mem (by decide +kernel)) (bind3 (by intros; kernel_rfl)) rfl (by decide +kernel) (by decide +kernel) (by decide +kernel) (by decide +kernel) (by decide +kernel) (by decide +kernel) ?_
  show Ws P0 (k + 1) _ _ [("h", .flt h), ("l", .flt l), ("s", .flt s)] [] _
  unfold hlsF
  apply ws_cons
  walk_at "mgo"
  all_goals simp_all
end
section
local macro_rules | `(tactic| walk_at "muser") => `(tactic| (simp_all; done))
set_option maxHeartbeats 4000000 in
theorem fn_rgb {k : Nat} (r g b : UInt64) (ok : rgbOk r g b = true) : FnD P0 (k + 1) "rgb_to_hls" [.flt r, .flt g, .flt b] (.tup ((rgbF r g b).map D.flt)) := by
  refine fn_intro (fd := fdN 0) (fdN_mem (by decide +kernel)) (bind3 (by intros; kernel_rfl)) rfl (by decide +kernel) (by decide +kernel) (by decide +kernel) (by decide +kernel) (by decide +kernel) (by decide +kernel) ?_
  show Ws P0 k _ _ [("r", .flt r), ("g", .flt g), ("b", .flt b)] [] _
  unfold rgbF
  unfold rgbOk at ok
  dsimp only at ok ⊢
  apply ws_cons
  walk_at "mgo"
  all_goals simp_all
end
section
/-- [base[k] + sum([x % 100000000 for x in script[k:63:6]]) for k in range(6)] -/
noncomputable def baseL : List Int := [1920, 1088, 1665, 64, 746, 201601]
noncomputable def cellAt (vs : List Int) (n : Nat) : Int := baseL.getD n 0 + ((slcG vs (some (n : Int)) (some 63) (some 6)).map fun x => x.fmod 100000000).sum
noncomputable def cellsF (vs : List Int) : List Int := (List.range 6).map (cellAt vs)
local macro_rules | `(tactic| walk_at "muser") => `(tactic| (simp only [Int.toNat_natCast, List.length_cons, List.length_nil]; omega))
local macro_rules | `(tactic| walk_at "muev") => `(tactic| ((with_reducible apply EvN.ev); (with_reducible apply ev_sliceA); (· walk_at "mev"); (· walk_at "mevo"); (· walk_at "mevo"); (· walk_at "mevo"); (· decide +kernel); (· walk_at "mside")))
set_option maxHeartbeats 4000000 in
theorem fn_cells {k : Nat} (vs : List Int) (hz : vs.length ≤ sizeLine) : FnD P0 (k + 1) "_law_cells" [.arg vs] (.lst ((cellsF vs).map D.int)) := by
  refine fn_intro (fd := fdN 6) (fdN_mem (by decide +kernel)) (bind1 (by intros; kernel_rfl)) rfl (by decide +kernel) (by decide +kernel) (by decide +kernel) (by decide +kernel) (by decide +kernel) (by decide +kernel) ?_
  show Ws P0 k _ _ [("script", .arg vs)] [] _
  apply ws_cons
  walk_at "mgo"
  with_reducible apply wx_return
  · apply EvN.ev
    apply ev_compM0 (mk' := D.int) (cellAt vs)
    · walk_at "mev"
    · exact items_rng
    · decide +kernel
    · decide +kernel
    · intro a ha
      have ha' := List.mem_range.mp ha
      apply Ev.of_eq
      with_reducible apply ev_binop
      · walk_at "mev"
      · apply ev_sum
        · decide +kernel
        · apply evs_cons
          · apply EvN.ev
            apply ev_compM0 (mk' := D.int) (fun x : Int => x.fmod 100000000)
            · walk_at "mev"
            · exact items_lst
            · exact Nat.le_trans (slcG_le _ _ _) hz
            · decide +kernel
            · intro b hb
              walk_at "mev"
          · exact evs_nil
          · walk_at "mrfl"
        · exact c_sum
        · walk_at "mrfl"
        · walk_at "mrfl"
      · exact o_add
      simp only [cellAt, baseL, Int.toNat_natCast]
      rfl
  · simp only [andThen]; rfl
end
section
noncomputable def goingF (c : Int) (ins : List Int) : List Int := ins.filter fun j => (c.fdiv (2 ^ j.toNat)).fmod 2 == 1
noncomputable def stepF (c k : Int) (st : List Int × List Int) : List Int × List Int :=
  (st.1 ++ (if (c.fdiv 32).fmod 2 == 1 then (goingF c st.2).reverse else goingF c st.2) ++ [k], (st.2.filter fun j => !decide (j ∈ goingF c st.2)) ++ [k])
noncomputable def pageSt (cells : List Int) : Nat → List Int × List Int
  | 0 => ([], [])
  | i + 1 => stepF (cells.getD i 0) i (pageSt cells i)
noncomputable def pageF (cells : List Int) : List Int := (pageSt cells 5).1 ++ (if (cells.getD 5 0).fmod 2 == 1 then (pageSt cells 5).2.reverse else (pageSt cells 5).2)
theorem pageSt_small (cells : List Int) : ∀ i, i ≤ 5 → (pageSt cells i).2.length ≤ i ∧ (pageSt cells i).1.length ≤ 6 * i ∧ ∀ j ∈ (pageSt cells i).2, 0 ≤ j ∧ j < 5
  | 0, _ => by simp [pageSt]
  | i + 1, h => by
    obtain ⟨h1, h2, h3⟩ := pageSt_small cells i (by omega)
    have hg : (goingF (cells.getD i 0) (pageSt cells i).2).length ≤ (pageSt cells i).2.length := List.length_filter_le _ _
    refine ⟨?_, ?_, fun j hj => ?_⟩
    · simp only [pageSt, stepF, List.length_append, List.length_singleton]
      have := List.length_filter_le (fun j => !decide (j ∈ goingF (cells.getD i 0) (pageSt cells i).2)) (pageSt cells i).2
      omega
    · simp only [pageSt, stepF, List.length_append, List.length_singleton]
      split
      · rw [List.length_reverse]; omega
      · omega
    · simp only [pageSt, stepF] at hj
      rcases List.mem_append.mp hj with hj | hj
      · exact h3 j ((List.mem_filter.mp hj).1)
      · rw [List.mem_singleton] at hj; omega
theorem pow_small {j : Int} (h0 : 0 ≤ j) (h5 : j < 5) : (2 : Int) ^ j.toNat ≠ 0 ∧ ((2 : Int) ^ j.toNat).natAbs < 1073741824 := by
  have : j.toNat < 5 := by omega
  generalize j.toNat = n at this
  match n, this with
  | 0, _ => decide
  | 1, _ => decide
  | 2, _ => decide
  | 3, _ => decide
  | 4, _ => decide
local macro_rules | `(tactic| walk_at "muser") => `(tactic| first | (simp only [Int.toNat_natCast]; omega) | (simp only [List.length_append, List.length_reverse, List.length_cons, List.length_nil]; omega) | ((try simp only [List.length_append, List.length_reverse, List.length_cons, List.length_nil]); split <;> (try simp only [List.length_reverse]) <;> omega))
set_option maxHeartbeats 4000000 in
theorem fn_page {k : Nat} (cells : List Int) (hc : cells.length = 6) : FnD P0 (k + 1) "_law_page" [.lst (cells.map D.int)] (.lst ((pageF cells).map D.int)) := by
  refine fn_intro (fd := fdN 7) (fdN_mem (by decide +kernel)) (bind1 (by intros; kernel_rfl)) rfl (by decide +kernel) (by decide +kernel) (by decide +kernel) (by decide +kernel) (by decide +kernel) (by decide +kernel) ?_
  show Ws P0 k _ _ [("cells", .lst (cells.map D.int))] [] _
  apply ws_cons
  with_reducible apply wx_tup2 true
  · with_reducible apply eit_tuple
    · with_reducible apply evps_fr
      · walk_at "mev"
      · with_reducible apply evps_fr
        · walk_at "mev"
        · exact evps_nil
        · walk_at "mrfl"
      · walk_at "mrfl"
    · decide +kernel
  · exact ⟨⟨by decide +kernel, rfl⟩, ⟨by decide +kernel, rfl⟩, trivial⟩
  rotate_left
  · intro env he; rfl
  · intro env he hk
    obtain ⟨⟩ := env
    cases he
    kernel_rfl
  show Ws P0 k _ _ [("page", .lst (([] : List Int).map D.int)), ("inside", .lst (([] : List Int).map D.int)), ("cells", .lst (cells.map D.int))] [] _
  apply ws_cons
  apply wx_forF (fun i => [("page", .lst ((pageSt cells i).1.map D.int)), ("inside", .lst ((pageSt cells i).2.map D.int)), ("cells", .lst (cells.map D.int))]) (fun _ => [])
  · apply Ev.v
    walk_at "mev"
  · exact items_rng
  · decide +kernel
  · decide +kernel
  · intro q hq
    simp only [List.mem_cons, List.not_mem_nil, or_false] at hq
    rcases hq with rfl | rfl | rfl <;> rfl
  · rfl
  · intro i; rfl
  · intro i e he
    obtain ⟨hi, rfl⟩ := range_at he
    have hi : i < 5 := hi
    obtain ⟨s1, s2, s3⟩ := pageSt_small cells i (by omega)
    have hg : (goingF (cells.getD i 0) (pageSt cells i).2).length ≤ (pageSt cells i).2.length := List.length_filter_le _ _
    generalize hP : (pageSt cells i).1 = pg at *
    generalize hI : (pageSt cells i).2 = ins at *
    have hz : (2 : Nat) ^ 24 = sizeLine := rfl
    apply ws_cons
    with_reducible apply wx_assign
    · with_reducible apply EvN.ev
      apply ev_filt (pf := fun j : Int => ((cells.getD i 0).fdiv (2 ^ j.toNat)).fmod 2 == 1)
      · walk_at "mev"
      · exact items_lst
      · omega
      · decide +kernel
      · intro j hj
        obtain ⟨j0, j5⟩ := s3 j hj
        obtain ⟨p1, p2⟩ := pow_small j0 j5
        with_reducible apply ets_one
        with_reducible apply Et.of_eq
        · walk_at "met"
        · simp only [Int.toNat_natCast]; rfl
      · intro j hj _
        walk_at "mev"
      · walk_at "mrfl"
    · decide +kernel
    · rfl
    rotate_left
    · intro env he
      obtain ⟨⟩ := env
      cases he
      kernel_rfl
    show Ws P0 k _ _ [("going", .lst ((goingF (cells.getD i 0) ins).map D.int)), ("k", .int i), ("page", .lst (pg.map D.int)), ("inside", .lst (ins.map D.int)), ("cells", .lst (cells.map D.int))] [] _
    generalize hG : goingF (cells.getD i 0) ins = gg at *
    have hg2 : (ins.filter fun j => !decide (j ∈ gg)).length ≤ ins.length := List.length_filter_le _ _
    apply ws_cons
    with_reducible apply wx_assign
    · with_reducible apply ev_binop
      · with_reducible apply EvN.ev
        apply ev_filt (pf := fun j : Int => !decide (j ∈ gg))
        · walk_at "mev"
        · exact items_lst
        · omega
        · decide +kernel
        · intro j hj
          with_reducible apply ets_one
          with_reducible apply Et.of_eq
          · walk_at "met"
          · rfl
        · intro j hj _
          walk_at "mev"
        · walk_at "mrfl"
      · walk_at "mev"
      · walk_at "mop"
    · decide +kernel
    · rfl
    rotate_left
    · intro env he; rfl
    show Ws P0 k _ _ [("inside", .lst (((ins.filter fun j => !decide (j ∈ gg)) ++ [(i : Int)]).map D.int)), ("going", .lst (gg.map D.int)), ("k", .int i), ("page", .lst (pg.map D.int)), ("inside", .lst (ins.map D.int)), ("cells", .lst (cells.map D.int))] [] _
    apply ws_cons
    with_reducible apply wx_assign
    · walk_at "mev"
    · decide +kernel
    · rfl
    rotate_left
    · intro env he; rfl
    apply ws_nil
    refine ⟨fun q hq => ?_, rfl⟩
    simp only [List.mem_cons, List.not_mem_nil, or_false] at hq
    rcases hq with rfl | rfl | rfl
    · simp only [pageSt, stepF, hP, hI, hG]
      rfl
    · simp only [pageSt, stepF, hP, hI, hG]
      rfl
    · rfl
  · intro σ' hσ
    obtain ⟨s1, s2, s3⟩ := pageSt_small cells 5 (by omega)
    have hz : (2 : Nat) ^ 24 = sizeLine := rfl
    have hσ : ∀ q ∈ [(("page" : Str), D.lst ((pageSt cells 5).1.map D.int)), ("inside", .lst ((pageSt cells 5).2.map D.int)), ("cells", .lst (cells.map D.int))], σ'.lookup q.1 = some q.2 := hσ
    generalize hP : (pageSt cells 5).1 = pg at *
    generalize hI : (pageSt cells 5).2 = ins at *
    refine ws_weak ?_ (lookup_of_all hσ)
    apply ws_cons
    with_reducible apply wx_return
    · with_reducible apply Ev.of_eq
      · walk_at "mev"
      · rfl
    · simp only [pageF, hP, hI]; rfl
end
section
theorem fmod_range {a : Int} {b : Int} (hb : 0 < b) : 0 ≤ a.fmod b ∧ a.fmod b < b := ⟨Int.fmod_nonneg_of_pos a hb, Int.fmod_lt_of_pos a hb⟩
local macro_rules | `(tactic| walk_at "mpops") => `(tactic| first | with_reducible exact Pops.nil | ((with_reducible apply pops_at); (· walk_at "mev"); (· exact (fmod_range (by decide)).1); (· walk_at "mrfl"); (· rfl); (· walk_at "mrfl"); (· walk_at "mpops")))
set_option maxHeartbeats 4000000 in
theorem fn_signs {k : Nat} (q : Int) : FnD P0 (k + 1) "_law_signs" [.int q] (.lst ((signsF q).map D.str)) := by
  refine fn_intro (fd := fdN 8) (fdN_mem (by decide +kernel)) (bind1 (by intros; kernel_rfl)) rfl (by decide +kernel) (by decide +kernel) (by decide +kernel) (by decide +kernel) (by decide +kernel) (by decide +kernel) ?_
  show Ws P0 k _ _ [("q", .int q)] [] _
  apply ws_cons
  with_reducible apply wx_own (c := .lst (leftL.map D.str))
  · apply EvN.own (c := .lst (leftL.map D.str))
    · with_reducible apply EvN.of_eq
      · with_reducible apply ev_listS
        · walk_at "mevsS"
        · walk_at "mside"
      · rfl
    · decide +kernel
    · intros; trivial
  · decide +kernel
  · rfl
  · rfl
  rotate_left
  · intro env he; rfl
  with_reducible apply andThen_nxt
  apply ws_cons
  apply wx_retPops (l := leftL) (is := [(q.fmod 8).toNat, ((q.fdiv 8).fmod 7).toNat, ((q.fdiv 56).fmod 6).toNat, ((q.fdiv 336).fmod 5).toNat, ((q.fdiv 1680).fmod 4).toNat])
  · walk_at "mpops"
  · decide +kernel
  · rfl
  · have a1 := fmod_range (a := q) (b := 8) (by decide)
    have a2 := fmod_range (a := q.fdiv 8) (b := 7) (by decide)
    have a3 := fmod_range (a := q.fdiv 56) (b := 6) (by decide)
    have a4 := fmod_range (a := q.fdiv 336) (b := 5) (by decide)
    have a5 := fmod_range (a := q.fdiv 1680) (b := 4) (by decide)
    have hl : leftL.length = 8 := rfl
    refine ⟨by omega, ?_, ?_, ?_, ?_, trivial⟩ <;> simp only [List.length_eraseIdx, hl] <;> (repeat' split) <;> omega
  · decide +kernel
  · simp only [popsL, List.length_cons, List.length_nil]; decide +kernel
  · rfl
end
section
local macro_rules | `(tactic| walk_at "mspairs") => `(tactic| first | exact SPairs.nil | ((with_reducible apply SPairs.cons); walk_at "mspairs"))
set_option maxHeartbeats 4000000 in
theorem fn_spell {k : Nat} (x : Str) (hx : ∀ c ∈ x.cps.toList, ∃ y, tabL.lookup ⟨#[c]⟩ = some y) (hj : JoinOk "" (spellL x) = true) (hz : x.cps.toList.length ≤ sizeLine) : FnD P0 (k + 1) "_law_spell" [.str x] (.str (spellF x)) := by
  refine fn_intro (fd := fdN 9) (fdN_mem (by decide +kernel)) (bind1 (by intros; kernel_rfl)) rfl (by decide +kernel) (by decide +kernel) (by decide +kernel) (by decide +kernel) (by decide +kernel) (by decide +kernel) ?_
  show Ws P0 k _ _ [("row", .str x)] [] _
  refine ws_start ⟨_, _, rfl, ?_⟩
  with_reducible apply wx_assign
  · with_reducible apply EvN.ev
    with_reducible apply ev_tab
    · walk_at "mspairs"
    · intro h; cases h
    · decide +kernel
    · decide +kernel
  · decide +kernel
  · rfl
  rotate_left
  · intro env he; rfl
  with_reducible apply andThen_nxt
  apply ws_cons
  with_reducible apply wx_return
  · apply ev_meth (T := "str") (id := "str.join") (ds := [.lst ((spellL x).map D.str)]) (a := .str "") (d := .str (spellF x))
    · walk_at "mev"
    · rfl
    · exact F.plainAttrs_str
    · exact F.slot_str_join
    · exact F.type_str_join
    · with_reducible apply evs_cons
      · with_reducible apply EvN.ev
        apply ev_compM0 (mk' := D.str) (fun c => (tabL.lookup ⟨#[c]⟩).getD "")
        · walk_at "mev"
        · exact items_str
        · exact hz
        · decide +kernel
        · intro c hc
          obtain ⟨y, hy⟩ := hx c hc
          with_reducible apply ev_sub
          · walk_at "mev"
          · walk_at "mev"
          · rfl
          · apply g_tab
            rw [hy]; exact hy
          · walk_at "mrfl"
      · exact evs_nil
      · walk_at "mrfl"
    · exact c_join hj
  · rfl
end
section
theorem if_str {c : Bool} {a b : Str} : (if c then D.str a else D.str b) = D.str (if c then a else b) := by cases c <;> rfl
local macro_rules | `(tactic| walk_at "mesc") => `(tactic| (apply ws_cons; (with_reducible apply wx_ifset); (· walk_at "mlk"); (· walk_at "met"); (· intro _; (with_reducible apply ev_replace); (· walk_at "mev"); (· decide +kernel); (· walk_at "mside"); (· walk_at "mrfl"); (· rfl)); (· decide +kernel); (· rfl); (· exact if_str); (rotate_left); (· intro env he; rfl); (with_reducible apply andThen_nxt)))
set_option maxHeartbeats 4000000 in
theorem fn_esc {k : Nat} (x : Str) (h0 : x.length ≤ 1000) (h1 : (esc1 x).length ≤ 1000) (h2 : (esc2 x).length ≤ 1000) (h3 : (esc3 x).length ≤ 1000) (h4 : (esc4 x).length ≤ 1000) (h5 : (esc5 x).length ≤ 1000) : FnD P0 (k + 1) "_escape_attrib_c14n" [.str x] (.str (escF x)) := by
  refine fn_intro (fd := fdN 5) (fdN_mem (by decide +kernel)) (bind1 (by intros; kernel_rfl)) rfl (by decide +kernel) (by decide +kernel) (by decide +kernel) (by decide +kernel) (by decide +kernel) (by decide +kernel) ?_
  show Ws P0 k _ _ [("text", .str x)] [] _
  have big : ∀ (y z : Str), y.length ≤ 1000 → z.length ≤ 10 → y.length + (y.length + 1) * z.length ≤ 16777216 := fun y z a b => by
    have : (y.length + 1) * z.length ≤ 1001 * 10 := Nat.mul_le_mul (by omega) b
    omega
  have b0 := big _ "&amp;" h0 (by decide +kernel)
  have b1 := big _ "&lt;" h1 (by decide +kernel)
  have b2 := big _ "&quot;" h2 (by decide +kernel)
  have b3 := big _ "&#x9;" h3 (by decide +kernel)
  have b4 := big _ "&#xA;" h4 (by decide +kernel)
  have b5 := big _ "&#xD;" h5 (by decide +kernel)
  apply ws_cons
  with_reducible apply wx_try
  walk_at "mesc"
  walk_at "mesc"
  walk_at "mesc"
  walk_at "mesc"
  walk_at "mesc"
  walk_at "mesc"
  apply ws_cons
  with_reducible apply wx_return
  · walk_at "mev"
  · rfl
end
section
noncomputable def wayF (m c : Int) : Int := min ((3 * m - c).fmod 48) ((c - 3 * m).fmod 48)
noncomputable def partAt (m l s c : Int) : Int := 16 * l + min l (8 - l) * s * (4 - min (max (wayF m c - 8) 0) 8)
noncomputable def partsF (m l s : Int) : List Int := ([0, 16, 32] : List Int).map (partAt m l s)
set_option maxHeartbeats 4000000 in
theorem fn_parts {k : Nat} (m l s : Int) (hm : 0 ≤ m ∧ m ≤ 100) (hl : 0 ≤ l ∧ l ≤ 8) (hs : 0 ≤ s ∧ s ≤ 8) : FnD P0 (k + 1) "_law_parts" [.int m, .int l, .int s] (.lst ((partsF m l s).map D.int)) := by
  refine fn_intro (fd := fdN 11) (fdN_mem (by decide +kernel)) (bind3 (by intros; kernel_rfl)) rfl (by decide +kernel) (by decide +kernel) (by decide +kernel) (by decide +kernel) (by decide +kernel) (by decide +kernel) ?_
  show Ws P0 k _ _ [("m", .int m), ("l", .int l), ("s", .int s)] [] _
  apply ws_cons
  with_reducible apply wx_own
  · with_reducible apply own_lst
    · with_reducible apply ev_listI
      · walk_at "mevsI"
      · walk_at "mside"
    · decide +kernel
  · decide +kernel
  · rfl
  · rfl
  rotate_left
  · intro env he; rfl
  with_reducible apply andThen_nxt
  apply ws_cons
  apply wx_forF (F := fun i => [("m", .int m), ("l", .int l), ("s", .int s)]) (G := fun i => [("parts", .lst (((([0, 16, 32] : List Int).take i).map (partAt m l s)).map D.int))]) (ds := ([0, 16, 32] : List Int).map D.int)
  · apply Ev.v
    with_reducible apply EvN.ev
    with_reducible apply ev_tuple
    · walk_at "mevsI"
    · walk_at "mside"
  · rfl
  · decide +kernel
  · decide +kernel
  · intro q hq
    simp only [List.mem_cons, List.not_mem_nil, or_false] at hq
    rcases hq with rfl | rfl | rfl <;> rfl
  · rfl
  · intro i; rfl
  · intro i e he
    obtain ⟨c, hc, rfl⟩ := mapAt he
    have hi : i < 3 := by
      obtain ⟨h, _⟩ := List.getElem?_eq_some_iff.mp hc
      simpa using h
    apply ws_cons
    with_reducible apply wx_assign
    · walk_at "mev"
    · decide +kernel
    · rfl
    rotate_left
    · intro env he; rfl
    with_reducible apply andThen_nxt
    apply ws_cons
    with_reducible apply wx_append
    · rfl
    · decide +kernel
    · apply Ev.v
      walk_at "mev"
    · simp only [List.length_map, List.length_take]; have : (2 : Nat) ^ 24 = sizeLine := rfl; omega
    · with_reducible apply andThen_nxt
      apply ws_nil
      refine ⟨fun q hq => ?_, ?_⟩
      · simp only [List.mem_cons, List.not_mem_nil, or_false] at hq
        rcases hq with rfl | rfl | rfl <;> rfl
      · rw [take_map_succ hc, List.map_append]
        rfl
    · intro env he hk; exact int_fun env _ he hk
    · walk_at "mrfl"
    · walk_at "mrfl"
    · walk_at "mrfl"
  · intro σ' hσ
    refine ws_weak ?_ (lookup_of_all hσ)
    apply ws_freeze (x := "parts") (ω' := []) (c := .lst ((([0, 16, 32] : List Int).map (partAt m l s)).map D.int))
    · rfl
    · intro y c hy; cases hy
    · rfl
    apply ws_cons
    with_reducible apply wx_return
    · walk_at "mev"
    · rfl
end
section
noncomputable def takenF (shares : List Int) (rooms ins : List Int) : List Int := (ins.filter fun j => decide (0 < shares.getD j.toNat 0)).map fun j => rooms.getD j.toNat 0
noncomputable def freeF (taken : List Int) : List Int := ((List.range 6).filter fun n : Nat => !decide ((n : Int) ∈ taken)).map fun n : Nat => (n : Int)
noncomputable def payF (shares ins : List Int) : List Int := ins.filter fun j => decide (0 < shares.getD j.toNat 0)
structure RSt where
  rooms : List Int
  ins : List Int
  most : Int
noncomputable def roomsStep (shares : List Int) (st : RSt) (x : Int) : RSt :=
  if x ∈ st.ins then ⟨st.rooms, st.ins.eraseIdx (st.ins.idxOf x), st.most⟩
  else ⟨st.rooms.set x.toNat (leastI (freeF (takenF shares st.rooms st.ins))), st.ins ++ [x], max st.most ((payF shares (st.ins ++ [x])).length : Int)⟩
noncomputable def roomsSt (page shares : List Int) (i : Nat) : RSt := (page.take i).foldl (roomsStep shares) ⟨[0, 0, 0, 0, 0], [], 0⟩
noncomputable def roomsF (page shares : List Int) : List Int × Int := ((roomsSt page shares page.length).rooms, (roomsSt page shares page.length).most)
noncomputable def insStep (ins : List Int) (x : Int) : List Int := if x ∈ ins then ins.eraseIdx (ins.idxOf x) else ins ++ [x]
noncomputable def insSt (page : List Int) (i : Nat) : List Int := (page.take i).foldl insStep []
theorem foldl_at {α β : Type} {f : β → α → β} {b : β} {l : List α} {i : Nat} {a : α} (h : l[i]? = some a) : (l.take (i + 1)).foldl f b = f ((l.take i).foldl f b) a := by
  rw [List.take_add_one, h, List.foldl_append]; rfl
theorem rooms_ins (shares : List Int) : ∀ (l : List Int) (st : RSt), (l.foldl (roomsStep shares) st).ins = l.foldl insStep st.ins ∧ (l.foldl (roomsStep shares) st).rooms.length = st.rooms.length
  | [], st => ⟨rfl, rfl⟩
  | x :: l, st => by
    obtain ⟨h1, h2⟩ := rooms_ins shares l (roomsStep shares st x)
    rw [List.foldl_cons, List.foldl_cons, h1, h2]
    unfold roomsStep insStep
    split <;> simp
theorem ins_mem : ∀ (l : List Int) (ins : List Int), (∀ x ∈ l, 0 ≤ x ∧ x < 5) → (∀ x ∈ ins, 0 ≤ x ∧ x < 5) → ∀ x ∈ l.foldl insStep ins, 0 ≤ x ∧ x < 5
  | [], ins, _, h => h
  | y :: l, ins, hl, h => by
    rw [List.foldl_cons]
    refine ins_mem l _ (fun x hx => hl x (.tail _ hx)) fun x hx => ?_
    unfold insStep at hx
    split at hx
    · exact h x (List.mem_of_mem_eraseIdx hx)
    · rcases List.mem_append.mp hx with hx | hx
      · exact h x hx
      · rw [List.mem_singleton.mp hx]; exact hl y (.head _)
theorem free_ne {taken : List Int} (h : taken.length ≤ 5) : freeF taken ≠ [] := by
  intro e
  have all : ∀ n : Nat, n < 6 → (n : Int) ∈ taken := fun n hn => by
    have hf := List.map_eq_nil_iff.mp e
    have := List.filter_eq_nil_iff.mp hf n (List.mem_range.mpr hn)
    simpa using this
  have h0 := all 0 (by omega)
  have h1 : ((1 : Nat) : Int) ∈ taken.erase ((0 : Nat) : Int) := (List.mem_erase_of_ne (by decide)).mpr (all 1 (by omega))
  have h2 : ((2 : Nat) : Int) ∈ (taken.erase ((0 : Nat) : Int)).erase ((1 : Nat) : Int) := (List.mem_erase_of_ne (by decide)).mpr ((List.mem_erase_of_ne (by decide)).mpr (all 2 (by omega)))
  have h3 : ((3 : Nat) : Int) ∈ ((taken.erase ((0 : Nat) : Int)).erase ((1 : Nat) : Int)).erase ((2 : Nat) : Int) := (List.mem_erase_of_ne (by decide)).mpr ((List.mem_erase_of_ne (by decide)).mpr ((List.mem_erase_of_ne (by decide)).mpr (all 3 (by omega))))
  have h4 : ((4 : Nat) : Int) ∈ (((taken.erase ((0 : Nat) : Int)).erase ((1 : Nat) : Int)).erase ((2 : Nat) : Int)).erase ((3 : Nat) : Int) := (List.mem_erase_of_ne (by decide)).mpr ((List.mem_erase_of_ne (by decide)).mpr ((List.mem_erase_of_ne (by decide)).mpr ((List.mem_erase_of_ne (by decide)).mpr (all 4 (by omega)))))
  have h5 : ((5 : Nat) : Int) ∈ ((((taken.erase ((0 : Nat) : Int)).erase ((1 : Nat) : Int)).erase ((2 : Nat) : Int)).erase ((3 : Nat) : Int)).erase ((4 : Nat) : Int) := (List.mem_erase_of_ne (by decide)).mpr ((List.mem_erase_of_ne (by decide)).mpr ((List.mem_erase_of_ne (by decide)).mpr ((List.mem_erase_of_ne (by decide)).mpr ((List.mem_erase_of_ne (by decide)).mpr (all 5 (by omega))))))
  have e0 := List.length_erase_of_mem h0
  have e1 := List.length_erase_of_mem h1
  have e2 := List.length_erase_of_mem h2
  have e3 := List.length_erase_of_mem h3
  have e4 := List.length_erase_of_mem h4
  have e5 := List.length_erase_of_mem h5
  have p0 := List.length_pos_of_mem h0
  have p1 := List.length_pos_of_mem h1
  have p2 := List.length_pos_of_mem h2
  have p3 := List.length_pos_of_mem h3
  have p4 := List.length_pos_of_mem h4
  have p5 := List.length_pos_of_mem h5
  omega
theorem idx_first {ns : List Int} {x : Int} (h : x ∈ ns) : ns[ns.idxOf x]? = some x ∧ ∀ m y, ns[m]? = some y → m < ns.idxOf x → y ≠ x := by
  have hl : ns.idxOf x < ns.length := List.idxOf_lt_length_of_mem h
  refine ⟨by rw [List.getElem?_eq_getElem hl, List.getElem_idxOf hl], fun m y hy hm q => ?_⟩
  obtain ⟨h1, h2⟩ := List.getElem?_eq_some_iff.mp hy
  have := List.not_of_lt_findIdx (p := (· == x)) hm
  simp [h2, q] at this
local macro_rules | `(tactic| walk_at "mview") => `(tactic| simp only [viewOf, List.map_cons, List.map_nil, OC.d, List.cons_append, List.nil_append])
local macro_rules | `(tactic| walk_at "muser") => `(tactic| first | omega | (simp only [Int.toNat_natCast, List.length_append, List.length_cons, List.length_nil, List.length_map]; omega))
set_option maxHeartbeats 4000000 in
theorem fn_rooms {k : Nat} (page shares : List Int) (hp : ∀ x ∈ page, 0 ≤ x ∧ x < 5) (hi : ∀ i, (insSt page i).length ≤ 5) (hs : shares.length = 5) (hz : page.length ≤ 1000) :
    FnD P0 (k + 1) "_law_rooms" [.lst (page.map D.int), .lst (shares.map D.int)] (.tup [.lst ((roomsF page shares).1.map D.int), .int (roomsF page shares).2]) := by
  refine fn_intro (fd := fdN 10) (fdN_mem (by decide +kernel)) (bind2 (by intros; kernel_rfl)) rfl (by decide +kernel) (by decide +kernel) (by decide +kernel) (by decide +kernel) (by decide +kernel) (by decide +kernel) ?_
  show Ws P0 k _ _ [("page", .lst (page.map D.int)), ("shares", .lst (shares.map D.int))] [] _
  have hzz : (2 : Nat) ^ 24 = sizeLine := rfl
  apply ws_cons
  with_reducible apply wx_tup3
  · with_reducible apply eit_tuple
    · with_reducible apply evps_own
      · with_reducible apply own_lst
        · with_reducible apply ev_listI
          · walk_at "mevsI"
          · walk_at "mside"
        · decide +kernel
      · with_reducible apply evps_own
        · with_reducible apply own_lst
          · with_reducible apply ev_listI
            · walk_at "mevsI"
            · walk_at "mside"
          · decide +kernel
        · with_reducible apply evps_fr
          · walk_at "mev"
          · exact evps_nil
          · walk_at "mrfl"
        · walk_at "mrfl"
      · walk_at "mrfl"
    · decide +kernel
  · exact ⟨⟨by decide +kernel, rfl, rfl⟩, ⟨by decide +kernel, rfl, rfl⟩, ⟨by decide +kernel, rfl⟩, trivial⟩
  rotate_left
  · intro env he; rfl
  · intro env he hk
    obtain ⟨⟩ := env
    cases he
    kernel_rfl
  show Ws P0 k _ _ [("most", .int 0), ("page", .lst (page.map D.int)), ("shares", .lst (shares.map D.int))] [("inside", .lst (([] : List Int).map D.int)), ("rooms", .lst (([0, 0, 0, 0, 0] : List Int).map D.int))] _
  apply ws_cons
  apply wx_forF (F := fun i => [("most", .int (roomsSt page shares i).most), ("page", .lst (page.map D.int)), ("shares", .lst (shares.map D.int))]) (G := fun i => [("inside", .lst ((roomsSt page shares i).ins.map D.int)), ("rooms", .lst ((roomsSt page shares i).rooms.map D.int))]) (ds := page.map D.int)
  · apply Ev.v
    walk_at "mev"
  · rfl
  · rw [List.length_map]; omega
  · decide +kernel
  · intro q hq
    simp only [List.mem_cons, List.not_mem_nil, or_false] at hq
    rcases hq with rfl | rfl | rfl <;> rfl
  · rfl
  · intro i; rfl
  · intro i e he
    obtain ⟨x, hx, rfl⟩ := mapAt he
    obtain ⟨x0, x5⟩ := hp x (List.mem_of_getElem? hx)
    have hst : roomsSt page shares (i + 1) = roomsStep shares (roomsSt page shares i) x := foldl_at hx
    obtain ⟨r1, r2⟩ := rooms_ins shares (page.take i) ⟨[0, 0, 0, 0, 0], [], 0⟩
    have r1 : (roomsSt page shares i).ins = insSt page i := r1
    have r2 : (roomsSt page shares i).rooms.length = 5 := r2
    have hlen : (roomsSt page shares i).ins.length ≤ 5 := r1 ▸ hi i
    have hmem : ∀ j ∈ (roomsSt page shares i).ins, 0 ≤ j ∧ j < 5 := by
      rw [r1]; exact ins_mem (page.take i) [] (fun x hx => hp x (List.mem_of_mem_take hx)) (by simp)
    generalize hS : roomsSt page shares i = st at *
    obtain ⟨rooms, ins, most⟩ := st
    dsimp only at r1 r2 hlen hmem ⊢
    apply ws_cons
    with_reducible apply wx_ifV
    · with_reducible apply et_view
      walk_at "mview"
      walk_at "met"
    · intro hc
      have hc : x ∈ ins := by simpa using hc
      obtain ⟨q1, q2⟩ := idx_first hc
      apply ws_cons
      with_reducible apply wx_remove
      · rfl
      · decide +kernel
      · apply Ev.v
        walk_at "mev"
      · omega
      · exact q1
      · exact q2
      · with_reducible apply andThen_nxt
        apply ws_nil
        with_reducible apply andThen_nxt
        apply ws_nil
        rw [hst]
        simp only [roomsStep, if_pos hc]
        refine ⟨fun q hq => ?_, rfl⟩
        simp only [List.mem_cons, List.not_mem_nil, or_false] at hq
        rcases hq with rfl | rfl | rfl <;> rfl
      · intro env he hk; exact int_fun env _ he hk
      · walk_at "mrfl"
      · walk_at "mrfl"
      · walk_at "mrfl"
    · intro hc
      have hc : x ∉ ins := by simpa using hc
      apply ws_cons
      with_reducible apply wx_assignV (d := .lst ((takenF shares rooms ins).map D.int))
      · with_reducible apply ev_viewL
        · walk_at "mview"
          show EvN _ _ _ _ _ (.lst (((ins.filter fun j : Int => decide (0 < shares.getD j.toNat 0)).map fun j : Int => rooms.getD j.toNat 0).map D.int))
          apply ev_compM (mk' := D.int) (fun j : Int => decide (0 < shares.getD j.toNat 0)) (fun j : Int => rooms.getD j.toNat 0)
          · walk_at "mev"
          · exact items_lst
          · omega
          · decide +kernel
          · intro j hj
            obtain ⟨j0, j5⟩ := hmem j hj
            with_reducible apply ets_one
            with_reducible apply Et.of_eq
            · walk_at "met"
            · rfl
          · intro j hj _
            obtain ⟨j0, j5⟩ := hmem j hj
            with_reducible apply Ev.of_eq
            · walk_at "mev"
            · rfl
        · intro d hd
          obtain ⟨n, _, rfl⟩ := List.mem_map.mp hd
          rfl
      · decide +kernel
      · rfl
      rotate_left
      · intro env he
        obtain ⟨⟩ := env
        cases he
        kernel_rfl
      with_reducible apply andThen_nxt
      have ht5 : (takenF shares rooms ins).length ≤ 5 := by
        unfold takenF; rw [List.length_map]; exact Nat.le_trans (List.length_filter_le _ _) hlen
      have hne := free_ne ht5
      generalize hT : takenF shares rooms ins = taken at *
      apply ws_cons
      with_reducible apply wx_setL
      · rfl
      · decide +kernel
      · apply Ev.v
        with_reducible apply ev_min
        · decide +kernel
        · with_reducible apply evs_cons
          · with_reducible apply EvN.ev
            apply ev_compM (mk' := D.int) (fun n : Nat => !decide ((n : Int) ∈ taken)) (fun n : Nat => (n : Int))
            · walk_at "mev"
            · exact items_rng
            · decide +kernel
            · decide +kernel
            · intro n hn
              with_reducible apply ets_one
              with_reducible apply Et.of_eq
              · walk_at "met"
              · rfl
            · intro n hn _
              walk_at "mev"
          · exact evs_nil
          · walk_at "mrfl"
        · exact c_min_list hne
        · walk_at "mrfl"
        · walk_at "mrfl"
      · apply Ev.v
        walk_at "mev"
      · exact x0
      · rw [List.length_map]; omega
      · rw [List.length_map]; omega
      rotate_left
      · intro env he; rfl
      with_reducible apply andThen_nxt
      apply ws_cons
      with_reducible apply wx_append
      · rfl
      · decide +kernel
      · apply Ev.v
        walk_at "mev"
      · rw [List.length_map]; omega
      rotate_left
      · intro env he hk; exact int_fun env _ he hk
      · walk_at "mrfl"
      · walk_at "mrfl"
      · walk_at "mrfl"
      with_reducible apply andThen_nxt
      have e1 : List.map D.int ins ++ [D.int x] = List.map D.int (ins ++ [x]) := by simp
      have e2 : (List.map D.int rooms).set x.toNat (D.int (leastI (freeF taken))) = List.map D.int (rooms.set x.toNat (leastI (freeF taken))) := by rw [List.map_set]
      show Ws P0 k _ _ [("taken", .lst (taken.map D.int)), ("x", .int x), ("most", .int most), ("page", .lst (page.map D.int)), ("shares", .lst (shares.map D.int))] [("inside", .lst (List.map D.int ins ++ [D.int x])), ("rooms", .lst ((List.map D.int rooms).set x.toNat (D.int (leastI (freeF taken)))))] _
      rw [e1, e2]
      have hmem' : ∀ j ∈ ins ++ [x], 0 ≤ j ∧ j < 5 := fun j hj => by
        rcases List.mem_append.mp hj with hj | hj
        · exact hmem j hj
        · rw [List.mem_singleton.mp hj]; exact ⟨x0, x5⟩
      have hlen' : (ins ++ [x]).length ≤ 6 := by simp; omega
      generalize hN : ins ++ [x] = ins' at *
      apply ws_cons
      with_reducible apply wx_assignV (d := .int (max most ((payF shares ins').length : Int)))
      · with_reducible apply ev_view
        · walk_at "mview"
          with_reducible apply ev_max
          · decide +kernel
          · with_reducible apply evs_cons
            · walk_at "mev"
            · with_reducible apply evs_cons
              · with_reducible apply ev_len
                · decide +kernel
                · with_reducible apply evs_cons
                  · with_reducible apply EvN.ev
                    apply ev_filt (pf := fun j : Int => decide (0 < shares.getD j.toNat 0))
                    · walk_at "mev"
                    · exact items_lst
                    · omega
                    · decide +kernel
                    · intro j hj
                      obtain ⟨j0, j5⟩ := hmem' j hj
                      with_reducible apply ets_one
                      with_reducible apply Et.of_eq
                      · walk_at "met"
                      · rfl
                    · intro j hj _
                      walk_at "mev"
                    · walk_at "mrfl"
                  · exact evs_nil
                  · walk_at "mrfl"
                · apply c_len_list
                  rw [List.length_map]
                  have := List.length_filter_le (fun j : Int => decide (0 < shares.getD j.toNat 0)) ins'
                  omega
                · walk_at "mrfl"
                · walk_at "mrfl"
              · exact evs_nil
              · walk_at "mrfl"
            · walk_at "mrfl"
          · have e : ((List.map D.int (ins'.filter fun j : Int => decide (0 < shares.getD j.toNat 0))).length : Int) = ((payF shares ins').length : Int) := by rw [List.length_map]; rfl
            rw [e]
            exact c_max2
          · walk_at "mrfl"
          · walk_at "mrfl"
        · rfl
      · decide +kernel
      · rfl
      rotate_left
      · intro env he; rfl
      with_reducible apply andThen_nxt
      apply ws_nil
      with_reducible apply andThen_nxt
      apply ws_nil
      rw [hst]
      simp only [roomsStep, if_neg hc, hT, hN]
      refine ⟨fun q hq => ?_, rfl⟩
      simp only [List.mem_cons, List.not_mem_nil, or_false] at hq
      rcases hq with rfl | rfl | rfl <;> rfl
  · intro σ' hσ
    rw [List.length_map] at hσ ⊢
    refine ws_weak ?_ (lookup_of_all hσ)
    apply ws_freeze (x := "rooms") (c := .lst ((roomsSt page shares page.length).rooms.map D.int)) (ω' := [("inside", .lst ((roomsSt page shares page.length).ins.map D.int))])
    · rfl
    · intro y c hy
      rw [List.lookup_cons] at hy
      cases q : y == ("inside" : Str) with
      | true => rw [q] at hy; rw [List.lookup_cons, q]; exact hy
      | false => rw [q] at hy; cases hy
    · rfl
    apply ws_cons
    with_reducible apply wx_return
    · walk_at "mev"
    · rfl
end
section
noncomputable def dots : Str := "..."
noncomputable def ellLoop (got : Str) (e : Int) : List Str → Int → Bool
  | [], _ => true
  | w :: ws, s => if find4 got w s e < 0 then false else ellLoop got e ws (find4 got w s e + w.length)
noncomputable def ell3 (got : Str) (ws : List Str) (s e : Int) : Bool := if e < s then false else ellLoop got e ws s
noncomputable def ell2 (got : Str) (ws : List Str) (s : Int) : Bool :=
  if !((ws.getD (ws.length - 1) "").length == 0) then (if Txt.endswith got (ws.getD (ws.length - 1) "") then ell3 got (ws.eraseIdx (ws.length - 1)) s ((got.length : Int) - (ws.getD (ws.length - 1) "").length) else false)
  else ell3 got ws s got.length
noncomputable def ell1 (got : Str) (ws : List Str) : Bool :=
  if !((ws.getD 0 "").length == 0) then (if Txt.startswith got (ws.getD 0 "") then ell2 got (ws.eraseIdx 0) (ws.getD 0 "").length else false) else ell2 got ws 0
noncomputable def ellF (want got : Str) : Bool := if !Txt.contains want dots then want == got else ell1 got (Txt.split want dots)
structure EllOk (want got : Str) : Prop where
  w : want.length ≤ 100000
  g : got.length ≤ 100000
  two : Txt.contains want dots = true → 2 ≤ (Txt.split want dots).length
  many : Txt.contains want dots = true → (Txt.split want dots).length ≤ 100000
  parts : ∀ x ∈ Txt.split want dots, x.length ≤ 100000
  cut : (Builtin.Str.partsBetween want (Builtin.Str.occurrences want dots 0 want.length (want.length + 1)) dots.length).length ≤ 100000
local macro_rules | `(tactic| walk_at "mview") => `(tactic| simp only [viewOf, List.map_cons, List.map_nil, OC.d, List.cons_append, List.nil_append])
local macro_rules | `(tactic| walk_at "muser") => `(tactic| first | omega | (simp only [Int.toNat_natCast, List.length_append, List.length_cons, List.length_nil, List.length_map]; omega))
theorem dots_const : (("ELLIPSIS_MARKER" : Str), D.str dots) ∈ consts := by unfold consts dots; simp
set_option maxHeartbeats 4000000 in
theorem fn_ell {k : Nat} (want got : Str) (ok : EllOk want got) : FnD P0 (k + 1) "_ellipsis_match" [.str want, .str got] (.bool (ellF want got)) := by
  refine fn_intro (fd := fdN 3) (fdN_mem (by decide +kernel)) (bind2 (by intros; kernel_rfl)) rfl (by decide +kernel) (by decide +kernel) (by decide +kernel) (by decide +kernel) (by decide +kernel) (by decide +kernel) ?_
  show Ws P0 k _ _ [("want", .str want), ("got", .str got)] [] _
  have hzz : (2 : Nat) ^ 24 = sizeLine := rfl
  obtain ⟨ow, og, o2, om, op, oc⟩ := ok
  apply ws_cons
  with_reducible apply wx_if
  · with_reducible apply et_cmp
    · with_reducible apply ev_const
      · exact dots_const
      · decide +kernel
      · decide +kernel
    · walk_at "mev"
    · with_reducible exact s_notIn
    · with_unfolding_all rfl
  · intro hc
    apply ws_cons
    with_reducible apply wx_return
    · walk_at "mev"
    · repeat with_reducible apply andThen_ret
      unfold ellF
      rw [if_pos hc]
  intro hc
  have hcon : Txt.contains want dots = true := by simpa using hc
  apply ws_nil
  with_reducible apply andThen_nxt
  have o2 := o2 hcon
  have om := om hcon
  have e0 : ellF want got = ell1 got (Txt.split want dots) := by unfold ellF; rw [hc]; rfl
  rw [e0]
  apply ws_cons
  with_reducible apply wx_own
  · with_reducible apply own_lst
    · apply ev_methN (T := "str") (id := "str.split") (a := .str want) (ds := [.str dots]) (d := .lst ((Txt.split want dots).map D.str))
      · walk_at "mev"
      · rfl
      · exact F.plainAttrs_str
      · exact F.slot_str_split
      · exact F.type_str_split
      · with_reducible apply evs_cons
        · with_reducible apply ev_const
          · exact dots_const
          · decide +kernel
          · decide +kernel
        · exact evs_nil
        · walk_at "mrfl"
      · apply cn_split
        · decide +kernel
        · omega
        · omega
    · rw [flatL_iff]
      intro d hd
      obtain ⟨n, _, rfl⟩ := List.mem_map.mp hd
      rfl
  · decide +kernel
  · rfl
  · rfl
  rotate_left
  · intro env he; rfl
  with_reducible apply andThen_nxt
  generalize hW : Txt.split want dots = ws at *
  apply ws_cons
  with_reducible apply wx_assert
  · with_reducible apply et_view
    walk_at "mview"
    with_reducible apply Et.of_eq
    · walk_at "met"
    · rw [List.length_map]; simp; omega
  with_reducible apply andThen_nxt
  apply ws_cons
  with_reducible apply wx_tup2 true
  · with_reducible apply eit_tuple
    · with_reducible apply evps_fr
      · walk_at "mev"
      · with_reducible apply evps_fr
        · walk_at "mev"
        · exact evps_nil
        · walk_at "mrfl"
      · walk_at "mrfl"
    · simp only [List.length_cons, List.length_nil]; omega
  · exact ⟨⟨by decide +kernel, rfl⟩, ⟨by decide +kernel, rfl⟩, trivial⟩
  rotate_left
  · intro env he; rfl
  · intro env he hk
    obtain ⟨⟩ := env
    cases he
    kernel_rfl
  show Ws P0 k _ _ [("startpos", .int 0), ("endpos", .int (got.length : Int)), ("want", .str want), ("got", .str got)] [("ws", .lst (ws.map D.str))] _
  apply ws_cons
  with_reducible apply wx_assignV (d := .str (ws.getD 0 ""))
  · with_reducible apply ev_view
    · walk_at "mview"
      with_reducible apply Ev.of_eq
      · walk_at "mev"
      · rfl
    · rfl
  · decide +kernel
  · rfl
  rotate_left
  · intro env he; rfl
  with_reducible apply andThen_nxt
  have w0 : ∀ n, (ws.getD n "").length ≤ 100000 := fun n => by
    rw [List.getD_eq_getElem?_getD]
    cases h : ws[n]? with
    | none => decide +kernel
    | some y => exact op y (List.mem_of_getElem? h)
  have w00 := w0 0
  apply ws_cons
  -- after the first «if w»
  apply wx_then (F' := fun σ' ω' => ∃ s ws', ω' = [(("ws" : Str), OC.lst (List.map D.str ws'))] ∧ 1 ≤ ws'.length ∧ ws'.length ≤ 100000 ∧ (∀ x ∈ ws', x.length ≤ 100000) ∧ ell1 got ws = ell2 got ws' s ∧ ∀ q ∈ [(("startpos" : Str), D.int s), ("endpos", .int (got.length : Int)), ("got", .str got)], σ'.lookup q.1 = some q.2)
  · with_reducible apply wx_if
    · with_reducible apply et_str
      · walk_at "mev"
      · omega
      · walk_at "mrfl"
    · intro h1
      apply ws_cons
      with_reducible apply wx_if
      · with_reducible apply et_bool
        · apply ev_meth (T := "str") (id := "str.startswith") (a := .str got) (ds := [.str (ws.getD 0 "")]) (d := .bool (Txt.startswith got (ws.getD 0 "")))
          · walk_at "mev"
          · rfl
          · exact F.plainAttrs_str
          · exact F.slot_str_startswith
          · exact F.type_str_startswith
          · walk_at "mevs"
          · exact c_startswith
        · walk_at "mrfl"
      · intro h2
        apply ws_cons
        with_reducible apply wx_assign
        · walk_at "mev"
        · decide +kernel
        · rfl
        rotate_left
        · intro env he; rfl
        with_reducible apply andThen_nxt
        apply ws_cons
        with_reducible apply wx_del (j := 0)
        · rfl
        · decide +kernel
        · apply Ev.v
          walk_at "mev"
        · rw [List.length_map]; omega
        · exact .inl rfl
        · rw [List.length_map]; omega
        with_reducible apply andThen_nxt
        apply ws_nil
        with_reducible apply andThen_nxt
        apply ws_nil
        refine ⟨((ws.getD 0 "").length : Int), ws.eraseIdx 0, ?_, ?_, ?_, ?_, ?_, ?_⟩
        · show [(("ws" : Str), OC.lst ((List.map D.str ws).eraseIdx 0))] = _
          rw [erase_map]
        · rw [List.length_eraseIdx]; split <;> omega
        · rw [List.length_eraseIdx]; split <;> omega
        · exact fun x hx => op x (List.mem_of_mem_eraseIdx hx)
        · unfold ell1
          rw [if_pos h1, if_pos h2]
        · intro q hq
          simp only [List.mem_cons, List.not_mem_nil, or_false] at hq
          rcases hq with rfl | rfl | rfl <;> rfl
      · intro h2
        apply ws_cons
        with_reducible apply wx_return
        · walk_at "mev"
        · repeat with_reducible apply andThen_ret
          unfold ell1
          rw [if_pos h1, h2]; rfl
    · intro h1
      apply ws_nil
      refine ⟨0, ws, rfl, by omega, om, op, ?_, ?_⟩
      · unfold ell1
        rw [h1]; rfl
      · intro q hq
        simp only [List.mem_cons, List.not_mem_nil, or_false] at hq
        rcases hq with rfl | rfl | rfl <;> rfl
  rintro σ' ω' ⟨s, ws', rfl, l1, lm, op', e1, hσ⟩
  rw [e1]
  clear e1 e0 w00 w0 op om o2 hcon hc
  refine ws_weak ?_ (lookup_of_all hσ)
  have w0 : ∀ n, (ws'.getD n "").length ≤ 100000 := fun n => by
    rw [List.getD_eq_getElem?_getD]
    cases h : ws'[n]? with
    | none => decide +kernel
    | some y => exact op' y (List.mem_of_getElem? h)
  have w00 := w0 (ws'.length - 1)
  apply ws_cons
  with_reducible apply wx_assignV (d := .str (ws'.getD (ws'.length - 1) ""))
  · with_reducible apply ev_view
    · walk_at "mview"
      with_reducible apply Ev.of_eq
      · with_reducible apply ev_sub
        · walk_at "mev"
        · walk_at "mev"
        · rfl
        · apply g_last (mk := D.str) (l := ws')
          · omega
          · omega
        · walk_at "mrfl"
      · rfl
    · rfl
  · decide +kernel
  · rfl
  rotate_left
  · intro env he; rfl
  with_reducible apply andThen_nxt
  apply ws_cons
  apply wx_then (F' := fun σ' ω' => ∃ e ws'', ω' = [(("ws" : Str), OC.lst (List.map D.str ws''))] ∧ ws''.length ≤ 100000 ∧ (∀ x ∈ ws'', x.length ≤ 100000) ∧ ell2 got ws' s = ell3 got ws'' s e ∧ ∀ q ∈ [(("startpos" : Str), D.int s), ("endpos", .int e), ("got", .str got)], σ'.lookup q.1 = some q.2)
  · with_reducible apply wx_if
    · with_reducible apply et_str
      · walk_at "mev"
      · omega
      · walk_at "mrfl"
    · intro h1
      apply ws_cons
      with_reducible apply wx_if
      · with_reducible apply et_bool
        · apply ev_meth (T := "str") (id := "str.endswith") (a := .str got) (ds := [.str (ws'.getD (ws'.length - 1) "")]) (d := .bool (Txt.endswith got (ws'.getD (ws'.length - 1) "")))
          · walk_at "mev"
          · rfl
          · exact F.plainAttrs_str
          · exact F.slot_str_endswith
          · exact F.type_str_endswith
          · walk_at "mevs"
          · exact c_endswith
        · walk_at "mrfl"
      · intro h2
        apply ws_cons
        with_reducible apply wx_aug
        · walk_at "mlk"
        · decide +kernel
        · walk_at "mev"
        · with_reducible exact o_isub
        · decide +kernel
        · rfl
        with_reducible apply andThen_nxt
        apply ws_cons
        with_reducible apply wx_del (j := ws'.length - 1)
        · rfl
        · decide +kernel
        · apply Ev.v
          walk_at "mev"
        · rw [List.length_map]; omega
        · rw [List.length_map]; exact .inr ⟨by omega, by decide⟩
        · rw [List.length_map]; omega
        with_reducible apply andThen_nxt
        apply ws_nil
        with_reducible apply andThen_nxt
        apply ws_nil
        refine ⟨(got.length : Int) - ((ws'.getD (ws'.length - 1) "").length : Int), ws'.eraseIdx (ws'.length - 1), ?_, ?_, ?_, ?_, ?_⟩
        · show [(("ws" : Str), OC.lst ((List.map D.str ws').eraseIdx (ws'.length - 1)))] = _
          rw [erase_map]
        · rw [List.length_eraseIdx]; split <;> omega
        · exact fun x hx => op' x (List.mem_of_mem_eraseIdx hx)
        · unfold ell2
          rw [if_pos h1, if_pos h2]
        · intro q hq
          simp only [List.mem_cons, List.not_mem_nil, or_false] at hq
          rcases hq with rfl | rfl | rfl <;> rfl
      · intro h2
        apply ws_cons
        with_reducible apply wx_return
        · walk_at "mev"
        · repeat with_reducible apply andThen_ret
          unfold ell2
          rw [if_pos h1, h2]; rfl
    · intro h1
      apply ws_nil
      refine ⟨(got.length : Int), ws', rfl, by omega, op', ?_, ?_⟩
      · unfold ell2
        rw [h1]; rfl
      · intro q hq
        simp only [List.mem_cons, List.not_mem_nil, or_false] at hq
        rcases hq with rfl | rfl | rfl <;> rfl
  rintro σ'' ω'' ⟨e, ws'', rfl, lm', op'', e1, hσ'⟩
  rw [e1]
  clear e1 w00 w0 op' lm l1 hσ
  refine ws_weak ?_ (lookup_of_all hσ')
  apply ws_cons
  with_reducible apply wx_if
  · walk_at "met"
  · intro h1
    apply ws_cons
    with_reducible apply wx_return
    · walk_at "mev"
    · repeat with_reducible apply andThen_ret
      have h1 : e < s := by simpa using h1
      unfold ell3
      rw [if_pos h1]
  intro h1
  have h1 : ¬ e < s := by simpa using h1
  apply ws_nil
  with_reducible apply andThen_nxt
  have e3 : ell3 got ws'' s e = ellLoop got e ws'' s := by unfold ell3; rw [if_neg h1]
  rw [e3]
  apply ws_freeze (x := "ws") (c := .lst (ws''.map D.str)) (ω' := [])
  · rfl
  · intro y c hy; cases hy
  · rfl
  apply ws_cons
  apply wx_for (ds := ws''.map D.str) (Inv := fun i σ' ω' => ω' = [] ∧ ∃ s', ellLoop got e ws'' s = ellLoop got e (ws''.drop i) s' ∧ ∀ q ∈ [(("startpos" : Str), D.int s'), ("endpos", .int e), ("got", .str got)], σ'.lookup q.1 = some q.2)
  · apply Ev.v
    walk_at "mev"
  · rfl
  · rw [List.length_map]; omega
  · decide +kernel
  · refine ⟨rfl, s, by rw [List.drop_zero], fun q hq => ?_⟩
    simp only [List.mem_cons, List.not_mem_nil, or_false] at hq
    rcases hq with rfl | rfl | rfl <;> rfl
  · rintro i d σ' ω' hd ⟨rfl, s', e4, hσ⟩
    refine ⟨rfl, ?_⟩
    obtain ⟨w, hw, rfl⟩ := mapAt hd
    have hwl := op'' w (List.mem_of_getElem? hw)
    have hdrop : ws''.drop i = w :: ws''.drop (i + 1) := by
      obtain ⟨h, h'⟩ := List.getElem?_eq_some_iff.mp hw
      rw [List.drop_eq_getElem_cons h, h']
    rw [hdrop] at e4
    refine ws_weak (σ' := [("w", .str w), ("startpos", .int s'), ("endpos", .int e), ("got", .str got)]) ?_ (fun y d hy => ?_)
    rotate_left
    · rw [List.lookup_cons] at hy ⊢
      cases q : y == ("w" : Str) with
      | true => rw [q] at hy; exact hy
      | false => rw [q] at hy; exact lookup_of_all hσ y d hy
    apply ws_cons
    with_reducible apply wx_assign (d := .int (find4 got w s' e))
    · apply ev_meth (T := "str") (id := "str.find") (a := .str got) (ds := [.str w, .int s', .int e]) (d := .int (find4 got w s' e))
      · walk_at "mev"
      · rfl
      · exact F.plainAttrs_str
      · exact F.slot_str_find
      · exact F.type_str_find
      · walk_at "mevs"
      · exact c_find4
    · decide +kernel
    · rfl
    rotate_left
    · intro env he; rfl
    with_reducible apply andThen_nxt
    apply ws_cons
    with_reducible apply wx_if
    · walk_at "met"
    · intro h2
      have h2 : find4 got w s' e < 0 := by simpa using h2
      apply ws_cons
      with_reducible apply wx_return
      · walk_at "mev"
      · repeat with_reducible apply andThen_ret
        rw [e4, ellLoop, if_pos h2]
    intro h2
    have h2 : ¬ find4 got w s' e < 0 := by simpa using h2
    apply ws_nil
    with_reducible apply andThen_nxt
    apply ws_cons
    with_reducible apply wx_aug
    · walk_at "mlk"
    · decide +kernel
    · walk_at "mev"
    · with_reducible exact o_iadd
    · decide +kernel
    · rfl
    with_reducible apply andThen_nxt
    apply ws_nil
    refine ⟨rfl, find4 got w s' e + (w.length : Int), ?_, fun q hq => ?_⟩
    · rw [e4, ellLoop, if_neg h2]
    · simp only [List.mem_cons, List.not_mem_nil, or_false] at hq
      rcases hq with rfl | rfl | rfl <;> rfl
  · rintro σ' ω' ⟨rfl, s', e4, hσ⟩
    rw [List.length_map, List.drop_length] at e4
    rw [e4]
    apply ws_cons
    with_reducible apply wx_return
    · walk_at "mev"
    · rfl
end
section
open PySem PySem.Calls PyProof.Rows PySem.Builtin.Str PySem.StrLaws
set_option maxRecDepth 100000
set_option linter.unusedVariables false
noncomputable def tl (x : Str) : List Nat := x.cps.toList
theorem tl_len (x : Str) : x.length = (tl x).length := by unfold tl Str.length; simp
theorem tl_ext {x y : Str} (h : tl x = tl y) : x = y := by
  cases x; cases y
  unfold tl at h
  simp only [Str.mk.injEq]
  exact Array.toList_inj.mp h
theorem tl_app (x y : Str) : tl (x ++ y) = tl x ++ tl y := by unfold tl; rw [Str.cps_append, Array.toList_append]
theorem tl_mk (l : List Nat) : tl ⟨l.toArray⟩ = l := rfl
/-- joined with nothing between -/
theorem tl_join0 : ∀ l : List Str, tl (Str.join "" l) = l.flatMap tl
  | [] => rfl
  | [x] => by simp [Str.join]
  | x :: y :: r => by
    have ih := tl_join0 (y :: r)
    show tl (x ++ ("" : Str) ++ Str.join "" (y :: r)) = _
    rw [tl_app, tl_app, ih]
    have e : tl ("" : Str) = [] := by decide +kernel
    rw [e, List.append_nil]; rfl
theorem tl_txtjoin0 (l : List Str) : tl (Txt.join "" l) = l.flatMap tl := by
  unfold Txt.join
  rw [glued_eq_join, tl_join0]
/-- one sign replaced -/
noncomputable def repl (c : Nat) (z l : List Nat) : List Nat := l.flatMap fun k => if k = c then z else [k]
theorem repl_app (c : Nat) (z a b : List Nat) : repl c z (a ++ b) = repl c z a ++ repl c z b := by unfold repl; rw [List.flatMap_append]
theorem repl_free (c : Nat) (z : List Nat) : ∀ l : List Nat, c ∉ l → repl c z l = l
  | [], _ => rfl
  | k :: r, h => by
    have h1 : ¬ k = c := fun e => h (e ▸ List.mem_cons_self ..)
    have h2 : c ∉ r := fun m => h (List.mem_cons_of_mem _ m)
    have := repl_free c z r h2
    unfold repl at this ⊢
    rw [List.flatMap_cons, if_neg h1, this]; rfl
theorem repl_join (c : Nat) (z : Str) : ∀ parts : List Str, (∀ p ∈ parts, c ∉ tl p) → repl c (tl z) (tl (Str.join ⟨#[c]⟩ parts)) = tl (Str.join z parts)
  | [], _ => rfl
  | [p], h => repl_free c _ _ (h p (List.mem_singleton.mpr rfl))
  | p :: q :: r, h => by
    have ih := repl_join c z (q :: r) fun a ha => h a (List.mem_cons_of_mem _ ha)
    show repl c (tl z) (tl (p ++ ⟨#[c]⟩ ++ Str.join ⟨#[c]⟩ (q :: r))) = tl (p ++ z ++ Str.join z (q :: r))
    rw [tl_app, tl_app, tl_app, tl_app, repl_app, repl_app, ih, repl_free c _ _ (h p (List.mem_cons_self ..))]
    have e : repl c (tl z) (tl ⟨#[c]⟩) = tl z := by
      show repl c (tl z) [c] = tl z
      unfold repl; simp
    rw [e]
theorem replace_tl (x z : Str) (c : Nat) : tl (Txt.replace x ⟨#[c]⟩ z) = repl c (tl z) (tl x) := by
  rw [replace_one, ← repl_join c z _ (split_free x c), join_split]
theorem step_tl (x z : Str) (c : Nat) : tl (escStep ⟨#[c]⟩ z x) = repl c (tl z) (tl x) := by
  unfold escStep
  split
  · exact replace_tl x z c
  · rename_i h
    have h' : (!(occurrences x ⟨#[c]⟩ 0 x.length 1).isEmpty) = false := by unfold Txt.contains at h; simpa using h
    rw [found_one] at h'
    rw [repl_free]
    exact of_decide_eq_false h'
noncomputable def e1L (l : List Nat) : List Nat := repl 38 (tl "&amp;") l
noncomputable def e2L (l : List Nat) : List Nat := repl 60 (tl "&lt;") (e1L l)
noncomputable def e3L (l : List Nat) : List Nat := repl 34 (tl "&quot;") (e2L l)
noncomputable def e4L (l : List Nat) : List Nat := repl 9 (tl "&#x9;") (e3L l)
noncomputable def e5L (l : List Nat) : List Nat := repl 10 (tl "&#xA;") (e4L l)
noncomputable def e6L (l : List Nat) : List Nat := repl 13 (tl "&#xD;") (e5L l)
theorem one_of {s : Str} {c : Nat} (h : s = ⟨#[c]⟩) (x z : Str) : tl (escStep s z x) = repl c (tl z) (tl x) := by rw [h]; exact step_tl x z c
theorem esc1_tl (x : Str) : tl (esc1 x) = e1L (tl x) := one_of (by decide +kernel) x _
theorem esc2_tl (x : Str) : tl (esc2 x) = e2L (tl x) := by unfold e2L; rw [← esc1_tl]; exact one_of (by decide +kernel) _ _
theorem esc3_tl (x : Str) : tl (esc3 x) = e3L (tl x) := by unfold e3L; rw [← esc2_tl]; exact one_of (by decide +kernel) _ _
theorem esc4_tl (x : Str) : tl (esc4 x) = e4L (tl x) := by unfold e4L; rw [← esc3_tl]; exact one_of (by decide +kernel) _ _
theorem esc5_tl (x : Str) : tl (esc5 x) = e5L (tl x) := by unfold e5L; rw [← esc4_tl]; exact one_of (by decide +kernel) _ _
theorem esc6_tl (x : Str) : tl (escF x) = e6L (tl x) := by unfold e6L; rw [← esc5_tl]; exact one_of (by decide +kernel) _ _
structure Homo (f : List Nat → List Nat) : Prop where
  nil : f [] = []
  app : ∀ a b, f (a ++ b) = f a ++ f b
theorem Homo.repl {f : List Nat → List Nat} (h : Homo f) (c : Nat) (z : List Nat) : Homo fun l => repl c z (f l) := ⟨by show Mine.repl c z (f []) = []; rw [h.nil]; rfl, fun a b => by show Mine.repl c z (f (a ++ b)) = _; rw [h.app, repl_app]⟩
theorem homo_id : Homo fun l => l := ⟨rfl, fun _ _ => rfl⟩
theorem h1 : Homo e1L := homo_id.repl _ _
theorem h2 : Homo e2L := h1.repl _ _
theorem h3 : Homo e3L := h2.repl _ _
theorem h4 : Homo e4L := h3.repl _ _
theorem h5 : Homo e5L := h4.repl _ _
theorem h6 : Homo e6L := h5.repl _ _
theorem Homo.flat {f : List Nat → List Nat} (h : Homo f) : ∀ l : List Nat, f l = l.flatMap fun c => f [c]
  | [] => h.nil
  | c :: l => by
    have e : f (c :: l) = f [c] ++ f l := h.app [c] l
    rw [e, Homo.flat h l]; rfl
theorem flat_congr {α β : Type} {f g : α → List β} : ∀ {l : List α}, (∀ a ∈ l, f a = g a) → l.flatMap f = l.flatMap g
  | [], _ => rfl
  | a :: l, h => by rw [List.flatMap_cons, List.flatMap_cons, h a (.head _), flat_congr fun b hb => h b (.tail _ hb)]
noncomputable def alpha : List Nat := [38, 60, 62, 34, 13, 10, 9, 98]
theorem Homo.short {f : List Nat → List Nat} (h : Homo f) (hs : ∀ c ∈ alpha, (f [c]).length ≤ 6) : ∀ l : List Nat, (∀ c ∈ l, c ∈ alpha) → (f l).length ≤ 6 * l.length
  | [], _ => by rw [h.nil]; exact Nat.zero_le _
  | c :: l, hl => by
    have e : f (c :: l) = f [c] ++ f l := h.app [c] l
    have h1 := hs c (hl c (.head _))
    have h2 := Homo.short h hs l fun d hd => hl d (.tail _ hd)
    rw [e, List.length_append, List.length_cons]; omega
/-- a sign as it is written -/
noncomputable def codeL (c : Nat) : List Nat := tl ((tabL.lookup ⟨#[c]⟩).getD "")
theorem code_eq : ∀ c ∈ alpha, e6L [c] = codeL c := by decide +kernel
theorem short1 : ∀ c ∈ alpha, (e1L [c]).length ≤ 6 := by decide +kernel
theorem short2 : ∀ c ∈ alpha, (e2L [c]).length ≤ 6 := by decide +kernel
theorem short3 : ∀ c ∈ alpha, (e3L [c]).length ≤ 6 := by decide +kernel
theorem short4 : ∀ c ∈ alpha, (e4L [c]).length ≤ 6 := by decide +kernel
theorem short5 : ∀ c ∈ alpha, (e5L [c]).length ≤ 6 := by decide +kernel
theorem short6 : ∀ c ∈ alpha, (e6L [c]).length ≤ 6 := by decide +kernel
theorem lookups : ∀ c ∈ alpha, ((tabL.lookup ⟨#[c]⟩).isSome) = true := by decide +kernel
theorem spell_tl (x : Str) : tl (spellF x) = (tl x).flatMap codeL := by
  unfold spellF spellL
  rw [tl_txtjoin0, List.flatMap_map]; rfl
theorem esc_tl (x : Str) (h : ∀ c ∈ tl x, c ∈ alpha) : tl (escF x) = (tl x).flatMap codeL := by
  rw [esc6_tl, h6.flat]
  exact flat_congr fun c hc => code_eq c (h c hc)
end
section
open PySem PySem.Calls PyProof.Rows PySem.Builtin.Str PySem.StrLaws
set_option maxRecDepth 100000
set_option linter.unusedVariables false
noncomputable def hdC (c : Nat) : Bool := c == 38 || c == 62 || c == 98
structure Cd (c : Nat → List Nat) : Prop where
  head : ∀ x, x < 5 → ∃ h t, c x = h :: t ∧ hdC h = true ∧ ∀ y ∈ t, hdC y = false
  pre : ∀ x y, x < 5 → y < 5 → c x <+: c y → x = y
  dot : ∀ x, x < 5 → 46 ∉ c x
noncomputable abbrev Lo (g : List Nat) : Prop := ∀ x ∈ g, x < 5
theorem Lo.cons {a : Nat} {g : List Nat} (h : Lo (a :: g)) : a < 5 ∧ Lo g := ⟨h a (.head _), fun x hx => h x (.tail _ hx)⟩
theorem Lo.drop {g : List Nat} (h : Lo g) (j : Nat) : Lo (g.drop j) := fun x hx => h x (List.mem_of_mem_drop hx)
section
variable {c : Nat → List Nat}
noncomputable def posC (c : Nat → List Nat) (g : List Nat) (j : Nat) : Nat := ((g.take j).flatMap c).length
theorem posC_zero (g : List Nat) : posC c g 0 = 0 := by unfold posC; simp
theorem posC_cons (a : Nat) (g : List Nat) (j : Nat) : posC c (a :: g) (j + 1) = (c a).length + posC c g j := by unfold posC; simp
theorem posC_len (g : List Nat) : posC c g g.length = (g.flatMap c).length := by unfold posC; rw [List.take_length]
theorem Cd.ne (C : Cd c) {x : Nat} (h : x < 5) : 0 < (c x).length := by
  obtain ⟨h, t, e, _⟩ := C.head x h
  rw [e]; exact Nat.succ_pos _
theorem Cd.at_head (C : Cd c) : ∀ (g : List Nat), Lo g → ∀ (i v : Nat), (g.flatMap c)[i]? = some v → hdC v = true → ∃ j, j < g.length ∧ i = posC c g j
  | [], _, i, v, h, _ => by simp at h
  | a :: g, hg, i, v, h, hv => by
    obtain ⟨ha, hg⟩ := hg.cons
    rw [List.flatMap_cons] at h
    obtain ⟨hh, t, e, h1, h2⟩ := C.head a ha
    by_cases hi : i < (c a).length
    · rw [List.getElem?_append_left hi, e] at h
      cases i with
      | zero => exact ⟨0, Nat.succ_pos _, (posC_zero _).symm⟩
      | succ i =>
        rw [List.getElem?_cons_succ] at h
        have := h2 v (List.mem_of_getElem? h)
        rw [hv] at this; cases this
    · rw [List.getElem?_append_right (Nat.not_lt.mp hi)] at h
      obtain ⟨j, hj, e'⟩ := C.at_head g hg _ v h hv
      refine ⟨j + 1, Nat.succ_lt_succ hj, ?_⟩
      rw [posC_cons]; omega
theorem Cd.pre_of (C : Cd c) : ∀ (w g : List Nat), Lo w → Lo g → w.flatMap c <+: g.flatMap c → w <+: g
  | [], g, _, _, _ => List.nil_prefix
  | a :: w, [], hw, _, h => by
    have hl := h.length_le
    have := C.ne hw.cons.1
    rw [List.flatMap_cons, List.length_append, List.flatMap_nil, List.length_nil] at hl
    omega
  | a :: w, b :: g, hw, hg, h => by
    obtain ⟨ha, hw'⟩ := hw.cons
    obtain ⟨hb, hg'⟩ := hg.cons
    rw [List.flatMap_cons, List.flatMap_cons] at h
    have p1 : c a <+: c b ++ g.flatMap c := (List.prefix_append _ _).trans h
    have p2 : c b <+: c b ++ g.flatMap c := List.prefix_append _ _
    have hab : a = b := by
      rcases List.prefix_or_prefix_of_prefix p1 p2 with q | q
      · exact C.pre _ _ ha hb q
      · exact (C.pre _ _ hb ha q).symm
    subst hab
    rw [List.prefix_append_right_inj] at h
    rw [List.cons_prefix_cons]
    exact ⟨rfl, C.pre_of w g hw' hg' h⟩
theorem flat_take_drop (g : List Nat) (j : Nat) : g.flatMap c = (g.take j).flatMap c ++ (g.drop j).flatMap c := by rw [← List.flatMap_append, List.take_append_drop]
theorem drop_pos (g : List Nat) (j : Nat) : (g.flatMap c).drop (posC c g j) = (g.drop j).flatMap c := by
  rw [flat_take_drop g j]; unfold posC; rw [List.drop_left]
theorem pos_le {g : List Nat} {j k : Nat} (h : j ≤ k) : posC c g j ≤ posC c g k := by
  unfold posC
  have e : g.take j = (g.take k).take j := by rw [List.take_take, Nat.min_eq_left h]
  rw [e, flat_take_drop (g.take k) j, List.length_append]
  exact Nat.le_add_right _ _
theorem Cd.pos_lt (C : Cd c) {g : List Nat} (hg : Lo g) {j k : Nat} (h : j < k) (hk : k ≤ g.length) : posC c g j < posC c g k := by
  have h1 : posC c g j < posC c g (j + 1) := by
    have hj : j < g.length := by omega
    unfold posC
    rw [List.take_add_one, List.getElem?_eq_getElem hj, List.flatMap_append, List.length_append]
    have := C.ne (hg _ (List.getElem_mem hj))
    simp only [Option.toList_some, List.flatMap_cons, List.flatMap_nil, List.append_nil]
    omega
  exact Nat.lt_of_lt_of_le h1 (pos_le h)
theorem Cd.pos_inj (C : Cd c) {g : List Nat} (hg : Lo g) {j k : Nat} (hj : j ≤ g.length) (hk : k ≤ g.length) (h : posC c g j < posC c g k) : j < k := by
  rcases Nat.lt_or_ge j k with q | q
  · exact q
  · exact absurd (pos_le (c := c) (g := g) q) (Nat.not_le.mpr h)
theorem pos_add {w g : List Nat} {j : Nat} (hj : j ≤ g.length) (h : w <+: g.drop j) : posC c g (j + w.length) = posC c g j + (w.flatMap c).length := by
  obtain ⟨t, ht⟩ := h
  unfold posC
  have e : g.take (j + w.length) = g.take j ++ w := by
    rw [List.take_add, ← ht, List.take_left]
  rw [e, List.flatMap_append, List.length_append]
/-- it stands there -/
theorem Cd.at_iff (C : Cd c) {w g : List Nat} (hw : Lo w) (hg : Lo g) (hne : w ≠ []) (i : Nat) : ((g.flatMap c).drop i).take (w.flatMap c).length = w.flatMap c ↔ ∃ j, j < g.length ∧ i = posC c g j ∧ w <+: g.drop j := by
  constructor
  · intro h
    have hp : w.flatMap c <+: (g.flatMap c).drop i := by rw [← h]; exact List.take_prefix _ _
    cases w with
    | nil => exact absurd rfl hne
    | cons a w =>
      obtain ⟨ha, hw'⟩ := hw.cons
      obtain ⟨hh, t, e, h1, h2⟩ := C.head a ha
      have hz : (g.flatMap c)[i]? = some hh := by
        obtain ⟨r, hr⟩ := hp
        have : ((g.flatMap c).drop i)[0]? = some hh := by rw [← hr, List.flatMap_cons, e]; rfl
        rwa [List.getElem?_drop, Nat.add_zero] at this
      obtain ⟨j, hj, rfl⟩ := C.at_head g hg i hh hz h1
      refine ⟨j, hj, rfl, ?_⟩
      rw [drop_pos] at hp
      exact C.pre_of _ _ hw (hg.drop j) hp
  · rintro ⟨j, hj, rfl, t, ht⟩
    rw [drop_pos, ← ht, List.flatMap_append, List.take_left]
end
/-- the first from s on -/
noncomputable def FirstAt (P : Nat → Prop) (s : Nat) : Option Nat → Prop
  | some j => s ≤ j ∧ P j ∧ ∀ k, s ≤ k → k < j → ¬ P k
  | none => ∀ k, s ≤ k → ¬ P k
theorem FirstAt.unique {P : Nat → Prop} {s : Nat} : ∀ {a b : Option Nat}, FirstAt P s a → FirstAt P s b → a = b
  | none, none, _, _ => rfl
  | some j, none, h, h' => absurd h.2.1 (h' j h.1)
  | none, some j, h, h' => absurd h'.2.1 (h j h'.1)
  | some j, some k, h, h' => by
    rcases Nat.lt_trichotomy j k with q | q | q
    · exact absurd h.2.1 (h'.2.2 j h.1 q)
    · rw [q]
    · exact absurd h'.2.1 (h.2.2 k h'.1 q)
noncomputable def findG (g w : List Nat) (s e : Nat) : Option Nat := (List.range' s (e + 1 - s)).find? fun j => Nat.ble (j + w.length) e && w.isPrefixOf (g.drop j)
theorem find_range {p : Nat → Bool} : ∀ (n s : Nat), match (List.range' s n).find? p with
    | some j => s ≤ j ∧ j < s + n ∧ p j = true ∧ ∀ k, s ≤ k → k < j → p k = false
    | none => ∀ k, s ≤ k → k < s + n → p k = false
  | 0, s => fun k h1 h2 => by omega
  | n + 1, s => by
    rw [List.range'_succ, List.find?_cons]
    cases h : p s with
    | true => exact ⟨Nat.le_refl _, by omega, h, fun k h1 h2 => by omega⟩
    | false =>
      have ih := find_range (p := p) n (s + 1)
      dsimp only
      revert ih
      cases (List.range' (s + 1) n).find? p with
      | some j =>
        rintro ⟨h1, h2, h3, h4⟩
        refine ⟨by omega, by omega, h3, fun k k1 k2 => ?_⟩
        by_cases q : k = s
        · rw [q]; exact h
        · exact h4 k (by omega) k2
      | none =>
        intro ih k k1 k2
        by_cases q : k = s
        · rw [q]; exact h
        · exact ih k (by omega) (by omega)
theorem findG_first (g w : List Nat) (s e : Nat) : FirstAt (fun j => j + w.length ≤ e ∧ w <+: g.drop j) s (findG g w s e) := by
  have hf := find_range (p := fun j => Nat.ble (j + w.length) e && w.isPrefixOf (g.drop j)) (e + 1 - s) s
  unfold findG
  have key : ∀ j, (Nat.ble (j + w.length) e && w.isPrefixOf (g.drop j)) = true ↔ j + w.length ≤ e ∧ w <+: g.drop j := fun j => by
    rw [Bool.and_eq_true, Nat.ble_eq, List.isPrefixOf_iff_prefix]
  have keyn : ∀ j, (Nat.ble (j + w.length) e && w.isPrefixOf (g.drop j)) = false → ¬ (j + w.length ≤ e ∧ w <+: g.drop j) := fun j h q => by
    rw [(key j).mpr q] at h; cases h
  revert hf
  cases (List.range' s (e + 1 - s)).find? fun j => Nat.ble (j + w.length) e && w.isPrefixOf (g.drop j) with
  | some j =>
    rintro ⟨h1, h2, h3, h4⟩
    exact ⟨h1, (key j).mp h3, fun k k1 k2 => keyn k (h4 k k1 k2)⟩
  | none =>
    intro h k k1 q
    exact keyn k (h k k1 (by omega)) q
theorem at_tl (x y : Str) (hi i : Nat) : At x y hi i ↔ i + (tl y).length ≤ hi ∧ ((tl x).drop i).take (tl y).length = tl y := by
  unfold At
  rw [subAt_eq, beq_iff_eq, tl_len y]
  rfl
noncomputable def orNeg : Option Nat → Int
  | some i => (i : Int)
  | none => -1
/-- str.find between two places -/
theorem occ_firstAt (x y : Str) (lo hi : Nat) : FirstAt (fun i => At x y hi i) lo (occurrences x y lo hi 1).head? := by
  rw [occ_eq]
  rcases occ_first x y hi 1 (Nat.le_refl _) (List.range' lo (hi + 1 - lo)) lo (fun i hi' => (List.mem_range'_1.mp hi').1) with ⟨h0, hn⟩ | ⟨pre, a, post, e, h0, ha, hn⟩
  · rw [h0]
    intro k hk q
    exact hn k (List.mem_range'_1.mpr ⟨hk, by have := q.1; omega⟩) q
  · have hm : a ∈ List.range' lo (hi + 1 - lo) := by rw [e]; simp
    have hx : (forIn (List.range' lo (hi + 1 - lo)) ((#[] : Array Nat), lo) (occBody x y hi 1)).run.fst.toList.head? = some a := by
      rw [List.head?_eq_getElem?, Array.getElem?_toList]; exact h0
    rw [hx]
    refine ⟨(List.mem_range'_1.mp hm).1, ha, fun k k1 k2 => hn k ?_⟩
    have hk : k ∈ List.range' lo (hi + 1 - lo) := List.mem_range'_1.mpr ⟨k1, by have := (List.mem_range'_1.mp hm).2; omega⟩
    rw [e] at hk
    rcases List.mem_append.mp hk with q | q
    · exact q
    · exfalso
      have hs : (List.range' lo (hi + 1 - lo)).Pairwise (· < ·) := List.pairwise_lt_range'
      rw [e, List.pairwise_append] at hs
      rcases List.mem_cons.mp q with q | q
      · omega
      · have := (List.pairwise_cons.mp hs.2.1).1 k q
        omega
theorem find4_of {x y : Str} {lo hi : Nat} (h1 : lo ≤ x.length) (h2 : hi ≤ x.length) {r : Option Nat} (h : FirstAt (fun i => At x y hi i) lo r) : find4 x y (lo : Int) (hi : Int) = orNeg r := by
  have e1 : fromIndex x.length (lo : Int) = lo := by unfold fromIndex; rw [if_neg (by omega)]; omega
  have e2 : min (fromIndex x.length (hi : Int)) x.length = hi := by unfold fromIndex; rw [if_neg (by omega)]; omega
  unfold find4
  rw [e1, e2]
  have hu := FirstAt.unique h (occ_firstAt x y lo hi)
  clear h
  subst hu
  cases occurrences x y lo hi 1 with
  | nil => rfl
  | cons a l => rfl
end
section
open PySem PySem.Calls PyProof.Rows PySem.Builtin.Str PySem.StrLaws
set_option maxRecDepth 100000
set_option linter.unusedVariables false
theorem tl_dots : tl dots = [46, 46, 46] := by decide +kernel
theorem dots_len : dots.length = 3 := by decide +kernel
noncomputable def joinD : List (List Nat) → List Nat
  | [] => []
  | [p] => p
  | p :: q :: r => p ++ [46, 46, 46] ++ joinD (q :: r)
theorem at_dots (x : Str) (k : Nat) : At x dots x.length k ↔ k + 3 ≤ x.length ∧ ((tl x).drop k).take 3 = [46, 46, 46] := by
  rw [at_tl, tl_dots]; rfl
theorem at_get {x : Str} {k : Nat} (h : At x dots x.length k) : (tl x)[k]? = some 46 := by
  have h2 := ((at_dots x k).mp h).2
  have : (((tl x).drop k).take 3)[0]? = some 46 := by rw [h2]; rfl
  rw [List.getElem?_take_of_lt (by omega), List.getElem?_drop, Nat.add_zero] at this
  exact this
theorem sub_tl (x : Str) (i j : Nat) : tl (strSub x i j) = ((tl x).drop i).take (j - i) := strSub_toList x i j
theorem parts_dots (x : Str) : ∀ (ps : List (List Nat)) (pre : List Nat) (cuts : List Nat) (f : Nat), ps ≠ [] → (∀ p ∈ ps, 46 ∉ p) → tl x = pre ++ joinD ps → ChainG x dots x.length pre.length cuts f → (∀ k, f ≤ k → ¬ At x dots x.length k) →
    (partsFrom x 3 pre.length cuts).map tl = ps
  | [], _, _, _, hn, _, _, _, _ => absurd rfl hn
  | [p], pre, cuts, f, _, hd, hx, hc, hf => by
    have hx : tl x = pre ++ p := hx
    have hp := hd p (.head _)
    cases cuts with
    | nil =>
      show [tl (strSub x pre.length x.length)] = [p]
      rw [sub_tl, hx, List.drop_left, tl_len, hx, List.length_append, Nat.add_sub_cancel_left, List.take_length]
    | cons a cs =>
      have ha := at_get hc.2.1
      rw [hx, List.getElem?_append_right hc.1] at ha
      exact absurd (List.mem_of_getElem? ha) hp
  | p :: q :: r, pre, cuts, f, _, hd, hx, hc, hf => by
    have hx : tl x = pre ++ (p ++ [46, 46, 46] ++ joinD (q :: r)) := hx
    have hp := hd p (.head _)
    have hm : At x dots x.length (pre.length + p.length) := by
      rw [at_dots, tl_len, hx]
      refine ⟨by simp only [List.length_append, List.length_cons, List.length_nil]; omega, ?_⟩
      rw [show pre ++ (p ++ [46, 46, 46] ++ joinD (q :: r)) = (pre ++ p) ++ ([46, 46, 46] ++ joinD (q :: r)) by simp, ← List.length_append, List.drop_left]
      rfl
    have hno : ∀ k, pre.length ≤ k → k < pre.length + p.length → ¬ At x dots x.length k := fun k k1 k2 hA => by
      have ha := at_get hA
      rw [hx, List.getElem?_append_right k1, List.append_assoc, List.getElem?_append_left (by omega)] at ha
      exact hp (List.mem_of_getElem? ha)
    cases cuts with
    | nil =>
      have e : f = pre.length := hc
      exact absurd hm (hf _ (by omega))
    | cons a cs =>
      obtain ⟨h1, h2, h3, h4⟩ := hc
      have ea : a = pre.length + p.length := by
        rcases Nat.lt_trichotomy a (pre.length + p.length) with w | w | w
        · exact absurd h2 (hno a h1 w)
        · exact w
        · exact absurd hm (h3 _ (by omega) w)
      subst ea
      rw [dots_len] at h4
      have ih := parts_dots x (q :: r) (pre ++ p ++ [46, 46, 46]) cs f (by simp) (fun b hb => hd b (.tail _ hb)) (by rw [hx]; simp) (by
        rw [List.length_append, List.length_append]
        exact h4) hf
      rw [List.length_append, List.length_append] at ih
      show tl (strSub x pre.length (pre.length + p.length)) :: (partsFrom x 3 (pre.length + p.length + 3) cs).map tl = p :: q :: r
      rw [show (partsFrom x 3 (pre.length + p.length + 3) cs).map tl = q :: r from ih, sub_tl, hx, List.drop_left, Nat.add_sub_cancel_left, List.append_assoc, List.take_left]
theorem kind_pos (x : Str) : 1 ≤ Builtin.Str.strKind x := by
  unfold Builtin.Str.strKind
  split
  · omega
  · split <;> omega
theorem kind_dots : Builtin.Str.strKind dots = 1 := by decide +kernel
theorem contains_iff (x : Str) : Txt.contains x dots = true ↔ ∃ i, At x dots x.length i := by
  unfold Txt.contains
  rw [found_iff]; rfl
theorem occ_ne {x : Str} (h : ∃ i, At x dots x.length i) : occurrences x dots 0 x.length (x.length + 1) ≠ [] := fun q => by
  obtain ⟨f, h1, h2⟩ := occ_tight x dots (by rw [dots_len]; omega)
  rw [q] at h1
  have e : f = 0 := h1
  obtain ⟨i, hi⟩ := h
  exact h2 i (by omega) hi
theorem split_of {x : Str} (h : ∃ i, At x dots x.length i) : Txt.split x dots = partsBetween x (occurrences x dots 0 x.length (x.length + 1)) dots.length := by
  unfold Txt.split
  have h3 : 3 ≤ x.length := by obtain ⟨i, hi⟩ := h; have := hi.1; rw [dots_len] at this; omega
  have c1 : (decide (x.length < dots.length) || decide (Builtin.Str.strKind x < Builtin.Str.strKind dots)) = false := by
    rw [dots_len, kind_dots]
    have := kind_pos x
    simp only [Bool.or_eq_false_iff, decide_eq_false_iff_not]
    omega
  rw [c1, if_neg Bool.false_ne_true]
  cases q : occurrences x dots 0 x.length (x.length + 1) with
  | nil => exact absurd q (occ_ne h)
  | cons a l => rw [if_neg (by simp)]
theorem split_dots {x : Str} {ps : List (List Nat)} (h2 : 2 ≤ ps.length) (hd : ∀ p ∈ ps, 46 ∉ p) (hx : tl x = joinD ps) : Txt.contains x dots = true ∧ (Txt.split x dots).map tl = ps := by
  have hA : ∃ i, At x dots x.length i := by
    match ps, h2 with
    | p :: q :: r, _ =>
      refine ⟨p.length, ?_⟩
      have hx : tl x = p ++ [46, 46, 46] ++ joinD (q :: r) := hx
      rw [at_dots, tl_len, hx]
      refine ⟨by simp only [List.length_append, List.length_cons, List.length_nil]; omega, ?_⟩
      rw [List.append_assoc, List.drop_left]; rfl
  refine ⟨(contains_iff x).mpr hA, ?_⟩
  rw [split_of hA, partsBetween_eq, dots_len]
  obtain ⟨f, h1, h2'⟩ := occ_tight x dots (by rw [dots_len]; omega)
  exact parts_dots x ps [] _ f (by intro q; rw [q] at h2; simp at h2) hd hx h1 h2'
theorem sub_short (x : Str) (i j : Nat) : (strSub x i j).length ≤ x.length := by
  rw [tl_len, sub_tl, List.length_take, List.length_drop, tl_len]; omega
theorem between_len (x : Str) (cuts : List Nat) (w : Nat) : (partsBetween x cuts w).length = cuts.length + 1 := by
  unfold partsBetween; simp
theorem ell_ok {want got : Str} (h1 : want.length ≤ 1000) (h2 : got.length ≤ 1000) : EllOk want got := by
  have ho := occ_length_le want dots 0 want.length (want.length + 1)
  have hsp : Txt.split want dots = [want] ∨ Txt.split want dots = partsBetween want (occurrences want dots 0 want.length (want.length + 1)) dots.length := by
    unfold Txt.split
    split
    · exact .inl rfl
    · split
      · exact .inl rfl
      · exact .inr rfl
  refine ⟨by omega, by omega, fun hc => ?_, fun hc => ?_, fun x hx => ?_, ?_⟩
  · have hA := (contains_iff want).mp hc
    rw [split_of hA, between_len]
    have := List.length_pos_iff.mpr (occ_ne hA)
    omega
  · rcases hsp with e | e <;> rw [e]
    · simp
    · rw [between_len]; omega
  · rcases hsp with e | e <;> rw [e] at hx
    · rw [List.mem_singleton.mp hx]; omega
    · unfold partsBetween at hx
      obtain ⟨⟨i, j⟩, _, rfl⟩ := List.mem_map.mp hx
      exact Nat.le_trans (sub_short _ _ _) (by omega)
  · rw [between_len]; omega
end
section
theorem ev_ell {k : Nat} {sc : Scope} {σ : List (Str × D)} {np pos : Pos} {e : Expr} {es : List Expr} {want got : Str} (hk : sc.names.lookup ("_ellipsis_match" : Str) = some .globalImplicit) (hargs : Evs P0 (k + 1) sc σ (e :: es) [.str want, .str got]) (h1 : want.length ≤ 1000) (h2 : got.length ≤ 1000)
    (he : ∀ env, starEach (e :: es) env = (false, eval e env) :: starEach es env) : Ev P0 (k + 1) sc σ (.Call (.Name "_ellipsis_match" np) (e :: es) [] pos) (.bool (ellF want got)) := ev_def 3 (by decide +kernel) (by decide +kernel) hk hargs (fn_ell want got (ell_ok h1 h2)) he (by decide +kernel)
noncomputable def stayF (page : List Int) (x : Int) : List Int := slcG page (some ((page.idxOf x : Int) + 1)) (some (9 - (page.reverse.idxOf x : Int))) none
noncomputable def said1 (own w5 : Str) (marks : List Str) : List Bool := marks.map fun mark => ellF ("..." ++ own ++ "..." ++ mark ++ "..." ++ mark ++ "...") w5
noncomputable def said2 (own wr : Str) (marks : List Str) : List Bool := marks.map fun mark => ellF (own ++ "..." ++ mark ++ "..." ++ own) wr
noncomputable def said3 (wr : Str) (marks : List Str) : List Bool := (marks.map fun mark => ellF (mark ++ "...") wr) ++ (marks.map fun mark => ellF ("..." ++ mark) wr)
noncomputable def said4 (own wr : Str) : List Bool := [ellF (own ++ own) wr, ellF (own ++ "......" ++ own) wr, ellF (own ++ "..." ++ own) own, ellF own wr, ellF (own ++ own) own]
noncomputable def due1 (x : Nat) : List Bool := (List.range 5).map fun y : Nat => decide ((x : Int) < (y : Int))
noncomputable def due2 (stay : List Int) : List Bool := (List.range 5).map fun y : Nat => decide ((y : Int) ∈ stay)
noncomputable def due3 (x : Nat) : List Bool := ((List.range 5).map fun y : Nat => ((y : Int) == (x : Int))) ++ ((List.range 5).map fun y : Nat => ((y : Int) == (x : Int)))
noncomputable def due4 (stay : List Int) : List Bool := [decide (stay = []), true, false, false, false]
noncomputable def saidRow (marks writings : List Str) (x : Nat) : List (List Bool) := [said1 (marks.getD x "") (writings.getD 5 "") marks, said2 (marks.getD x "") (writings.getD x "") marks, said3 (writings.getD x "") marks, said4 (marks.getD x "") (writings.getD x "")]
noncomputable def dueRow (page : List Int) (x : Nat) : List (List Bool) := [due1 x, due2 (stayF page x), due3 x, due4 (stayF page x)]
noncomputable def saidF (marks writings : List Str) (i : Nat) : List (List Bool) := (List.range i).flatMap (saidRow marks writings)
noncomputable def dueF (page : List Int) (i : Nat) : List (List Bool) := (List.range i).flatMap (dueRow page)
theorem sum_four {α : Type} : ∀ l : List α, (l.map fun _ => 4).sum = 4 * l.length
  | [] => rfl
  | a :: l => by rw [List.map_cons, List.sum_cons, sum_four l, List.length_cons]; omega
theorem flat_succ {α : Type} {f : Nat → List α} {i : Nat} : (List.range (i + 1)).flatMap f = (List.range i).flatMap f ++ f i := by
  rw [List.range_succ, List.flatMap_append]; simp
theorem bl_snoc {a : List (List Bool)} {b : List Bool} : a.map bl ++ [.lst (b.map D.bool)] = (a ++ [b]).map bl := by simp [bl]
local macro_rules | `(tactic| walk_at "muser") => `(tactic| first | omega | (simp only [len_app]; omega) | (simp only [Int.toNat_natCast, List.length_append, List.length_cons, List.length_nil, List.length_map, List.length_reverse]; omega))
local macro_rules | `(tactic| walk_at "mevsB") => `(tactic| first | with_reducible exact evsB_nil | ((with_reducible apply evsB_cons); (· walk_at "mev"); (· walk_at "mevsB"); (· walk_at "mrfl")))
local macro_rules | `(tactic| walk_at "muev") => `(tactic| first
  | ((with_reducible apply ev_ell); (· decide +kernel); (· walk_at "mevs"); (· walk_at "mside"); (· walk_at "mside"); (· walk_at "mrfl"))
  | ((with_reducible apply ev_index); (· walk_at "mev"); (· walk_at "mev"); (· walk_at "mside"); (· walk_at "mside"); (· walk_at "mrfl"); (· rfl); (· walk_at "mrfl")))
set_option maxHeartbeats 4000000 in
theorem fn_answers {k : Nat} (page : List Int) (marks writings : List Str) (hp : ∀ x : Nat, x < 5 → (x : Int) ∈ page) (hpz : page.length ≤ 1000) (hm : marks.length = 5) (hw : writings.length = 6) (hml : ∀ x ∈ marks, x.length ≤ 100) (hwl : ∀ x ∈ writings, x.length ≤ 500) :
    FnD P0 (k + 2) "_law_answers" [.lst (page.map D.int), .lst (marks.map D.str), .lst (writings.map D.str)] (.tup [.lst ((saidF marks writings 5).map bl), .lst ((dueF page 5).map bl)]) := by
  refine fn_intro (fd := fdN 12) (fdN_mem (by decide +kernel)) (bind3 (by intros; kernel_rfl)) rfl (by decide +kernel) (by decide +kernel) (by decide +kernel) (by decide +kernel) (by decide +kernel) (by decide +kernel) ?_
  show Ws P0 (k + 1) _ _ [("page", .lst (page.map D.int)), ("marks", .lst (marks.map D.str)), ("writings", .lst (writings.map D.str))] [] _
  have hzz : (2 : Nat) ^ 24 = sizeLine := rfl
  have mlen : ∀ n, (marks.getD n "").length ≤ 100 := fun n => by
    rw [List.getD_eq_getElem?_getD]
    cases h : marks[n]? with
    | none => decide +kernel
    | some y => exact hml y (List.mem_of_getElem? h)
  have wlen : ∀ n, (writings.getD n "").length ≤ 500 := fun n => by
    rw [List.getD_eq_getElem?_getD]
    cases h : writings[n]? with
    | none => decide +kernel
    | some y => exact hwl y (List.mem_of_getElem? h)
  have d3 : ("..." : Str).length = 3 := by decide +kernel
  have d6 : ("......" : Str).length = 6 := by decide +kernel
  apply ws_cons
  with_reducible apply wx_tup2 true
  · with_reducible apply eit_tuple
    · with_reducible apply evps_own
      · with_reducible apply own_lst
        · with_reducible apply ev_list
          · exact evs_nil
          · walk_at "mside"
        · decide +kernel
      · with_reducible apply evps_own
        · with_reducible apply own_lst
          · with_reducible apply ev_list
            · exact evs_nil
            · walk_at "mside"
          · decide +kernel
        · exact evps_nil
        · walk_at "mrfl"
      · walk_at "mrfl"
    · decide +kernel
  · exact ⟨⟨by decide +kernel, rfl, rfl⟩, ⟨by decide +kernel, rfl, rfl⟩, trivial⟩
  rotate_left
  · intro env he; rfl
  · intro env he hk
    obtain ⟨⟩ := env
    cases he
    kernel_rfl
  show Ws P0 (k + 1) _ _ [("page", .lst (page.map D.int)), ("marks", .lst (marks.map D.str)), ("writings", .lst (writings.map D.str))] [("said", .lst (([] : List (List Bool)).map bl)), ("due", .lst (([] : List (List Bool)).map bl))] _
  apply ws_cons
  apply wx_forF (F := fun i => [("page", .lst (page.map D.int)), ("marks", .lst (marks.map D.str)), ("writings", .lst (writings.map D.str))]) (G := fun i => [("said", .lst ((saidF marks writings i).map bl)), ("due", .lst ((dueF page i).map bl))])
  · apply Ev.v
    walk_at "mev"
  · exact items_rng
  · decide +kernel
  · decide +kernel
  · intro q hq
    simp only [List.mem_cons, List.not_mem_nil, or_false] at hq
    rcases hq with rfl | rfl | rfl <;> rfl
  · rfl
  · intro i; rfl
  · intro x e he
    obtain ⟨hx, rfl⟩ := range_at he
    have hx : x < 5 := hx
    have hxp := hp x hx
    have hxr : (x : Int) ∈ page.reverse := List.mem_reverse.mpr hxp
    have hsl : (saidF marks writings x).length ≤ 20 := by
      unfold saidF
      rw [List.length_flatMap]
      have : (List.map (fun a => (saidRow marks writings a).length) (List.range x)).sum = 4 * x := by
        have e : (fun a => (saidRow marks writings a).length) = fun _ => 4 := by funext a; rfl
        rw [e, sum_four, List.length_range]
      omega
    have hdl : (dueF page x).length ≤ 20 := by
      unfold dueF
      rw [List.length_flatMap]
      have : (List.map (fun a => (dueRow page a).length) (List.range x)).sum = 4 * x := by
        have e : (fun a => (dueRow page a).length) = fun _ => 4 := by funext a; rfl
        rw [e, sum_four, List.length_range]
      omega
    have es : saidF marks writings (x + 1) = saidF marks writings x ++ saidRow marks writings x := flat_succ
    have ed : dueF page (x + 1) = dueF page x ++ dueRow page x := flat_succ
    generalize hS : saidF marks writings x = said at *
    generalize hD : dueF page x = due at *
    have m1 := mlen x
    have w1 := wlen x
    have w5 : (writings.getD (5 : Int).toNat default).length ≤ 500 := wlen 5
    apply ws_cons
    with_reducible apply wx_tup2 false (c₁ := .fr (.str (marks.getD x ""))) (c₂ := .fr (.str (writings.getD x "")))
    · with_reducible apply eit_tuple
      · with_reducible apply evps_fr
        · with_reducible apply Ev.of_eq
          · walk_at "mev"
          · rfl
        · with_reducible apply evps_fr
          · with_reducible apply Ev.of_eq
            · walk_at "mev"
            · rfl
          · exact evps_nil
          · walk_at "mrfl"
        · walk_at "mrfl"
      · simp only [List.length_cons, List.length_nil]; omega
    · exact ⟨⟨by decide +kernel, rfl⟩, ⟨by decide +kernel, rfl⟩, trivial⟩
    rotate_left
    · intro env he; rfl
    · intro env he hk
      obtain ⟨⟩ := env
      cases he
      kernel_rfl
    show Ws P0 (k + 1) _ _ [("written", .str (writings.getD x "")), ("own", .str (marks.getD x "")), ("x", .int x), ("page", .lst (page.map D.int)), ("marks", .lst (marks.map D.str)), ("writings", .lst (writings.map D.str))] [("said", .lst (said.map bl)), ("due", .lst (due.map bl))] _
    generalize hO : marks.getD x "" = own at *
    generalize hWr : writings.getD x "" = wr at *
    have hml' : ∀ mark ∈ marks, mark.length ≤ 100 := hml
    apply ws_cons
    with_reducible apply wx_assign (d := .lst ((stayF page (x : Int)).map D.int))
    · with_reducible apply Ev.of_eq
      · walk_at "mev"
      · rfl
    · decide +kernel
    · rfl
    rotate_left
    · intro env he; rfl
    with_reducible apply andThen_nxt
    generalize hSt : stayF page (x : Int) = stay at *
    apply ws_cons
    apply wx_append (d := .lst (List.map D.bool (said1 own (writings.getD 5 "") marks)))
    · rfl
    · decide +kernel
    · apply Ev.v
      with_reducible apply EvN.ev
      apply ev_compM0 (mk' := D.bool) (fun mark : Str => ellF ("..." ++ own ++ "..." ++ mark ++ "..." ++ mark ++ "...") (writings.getD 5 ""))
      · walk_at "mev"
      · exact items_lst
      · omega
      · decide +kernel
      · intro mark hmk
        have ml := hml' mark hmk
        with_reducible apply Ev.of_eq
        · walk_at "mev"
        · rfl
    · rw [List.length_map]; (try rw [List.length_append]); (try simp only [List.length_append, List.length_cons, List.length_nil]); omega
    rotate_left
    · intro env he hk; exact int_fun env _ he hk
    with_reducible apply andThen_nxt
    rw [updO_here, bl_snoc]
    apply ws_cons
    apply wx_append (d := .lst (List.map D.bool (due1 x)))
    · rfl
    · decide +kernel
    · apply Ev.v
      with_reducible apply EvN.ev
      apply ev_compM0 (mk' := D.bool) (fun y : Nat => decide ((x : Int) < (y : Int)))
      · walk_at "mev"
      · exact items_rng
      · decide +kernel
      · decide +kernel
      · intro mark hmk
        have ml := List.mem_range.mp hmk
        with_reducible apply Ev.of_eq
        · walk_at "mev"
        · rfl
    · rw [List.length_map]; (try rw [List.length_append]); (try simp only [List.length_append, List.length_cons, List.length_nil]); omega
    rotate_left
    · intro env he hk; exact int_fun env _ he hk
    with_reducible apply andThen_nxt
    rw [updO_there (by decide +kernel), updO_here, bl_snoc]
    apply ws_cons
    apply wx_append (d := .lst (List.map D.bool (said2 own wr marks)))
    · rfl
    · decide +kernel
    · apply Ev.v
      with_reducible apply EvN.ev
      apply ev_compM0 (mk' := D.bool) (fun mark : Str => ellF (own ++ "..." ++ mark ++ "..." ++ own) wr)
      · walk_at "mev"
      · exact items_lst
      · omega
      · decide +kernel
      · intro mark hmk
        have ml := hml' mark hmk
        with_reducible apply Ev.of_eq
        · walk_at "mev"
        · rfl
    · rw [List.length_map]; (try rw [List.length_append]); (try simp only [List.length_append, List.length_cons, List.length_nil]); omega
    rotate_left
    · intro env he hk; exact int_fun env _ he hk
    with_reducible apply andThen_nxt
    rw [updO_here, bl_snoc]
    apply ws_cons
    apply wx_append (d := .lst (List.map D.bool (due2 stay)))
    · rfl
    · decide +kernel
    · apply Ev.v
      with_reducible apply EvN.ev
      apply ev_compM0 (mk' := D.bool) (fun y : Nat => decide ((y : Int) ∈ stay))
      · walk_at "mev"
      · exact items_rng
      · decide +kernel
      · decide +kernel
      · intro mark hmk
        have ml := List.mem_range.mp hmk
        with_reducible apply Ev.of_eq
        · walk_at "mev"
        · rfl
    · rw [List.length_map]; (try rw [List.length_append]); (try simp only [List.length_append, List.length_cons, List.length_nil]); omega
    rotate_left
    · intro env he hk; exact int_fun env _ he hk
    with_reducible apply andThen_nxt
    rw [updO_there (by decide +kernel), updO_here, bl_snoc]
    apply ws_cons
    apply wx_append (d := .lst (List.map D.bool (said3 wr marks)))
    · rfl
    · decide +kernel
    · apply Ev.v
      with_reducible apply ev_binop (a := .lst (List.map D.bool (marks.map fun mark : Str => ellF (mark ++ "...") wr))) (b := .lst (List.map D.bool (marks.map fun mark : Str => ellF ("..." ++ mark) wr)))
      · with_reducible apply EvN.ev
        apply ev_compM0 (mk' := D.bool) (fun mark : Str => ellF (mark ++ "...") wr)
        · walk_at "mev"
        · exact items_lst
        · omega
        · decide +kernel
        · intro mark hmk
          have ml := hml' mark hmk
          with_reducible apply Ev.of_eq
          · walk_at "mev"
          · rfl
      · with_reducible apply EvN.ev
        apply ev_compM0 (mk' := D.bool) (fun mark : Str => ellF ("..." ++ mark) wr)
        · walk_at "mev"
        · exact items_lst
        · omega
        · decide +kernel
        · intro mark hmk
          have ml := hml' mark hmk
          with_reducible apply Ev.of_eq
          · walk_at "mev"
          · rfl
      · apply lm_add
        simp only [List.length_map, List.length_range]; omega
    · rw [List.length_map]; (try rw [List.length_append]); (try simp only [List.length_append, List.length_cons, List.length_nil]); omega
    rotate_left
    · intro env he hk; exact int_fun env _ he hk
    with_reducible apply andThen_nxt
    rw [updO_here, bl_snoc]
    apply ws_cons
    apply wx_append (d := .lst (List.map D.bool (due3 x)))
    · rfl
    · decide +kernel
    · apply Ev.v
      with_reducible apply ev_binop (a := .lst (List.map D.bool ((List.range 5).map fun y : Nat => ((y : Int) == (x : Int))))) (b := .lst (List.map D.bool ((List.range 5).map fun y : Nat => ((y : Int) == (x : Int)))))
      · with_reducible apply EvN.ev
        apply ev_compM0 (mk' := D.bool) (fun y : Nat => ((y : Int) == (x : Int)))
        · walk_at "mev"
        · exact items_rng
        · decide +kernel
        · decide +kernel
        · intro mark hmk
          have ml := List.mem_range.mp hmk
          with_reducible apply Ev.of_eq
          · walk_at "mev"
          · rfl
      · with_reducible apply EvN.ev
        apply ev_compM0 (mk' := D.bool) (fun y : Nat => ((y : Int) == (x : Int)))
        · walk_at "mev"
        · exact items_rng
        · decide +kernel
        · decide +kernel
        · intro mark hmk
          have ml := List.mem_range.mp hmk
          with_reducible apply Ev.of_eq
          · walk_at "mev"
          · rfl
      · apply lm_add
        simp only [List.length_map, List.length_range]; omega
    · rw [List.length_map]; (try rw [List.length_append]); (try simp only [List.length_append, List.length_cons, List.length_nil]); omega
    rotate_left
    · intro env he hk; exact int_fun env _ he hk
    with_reducible apply andThen_nxt
    rw [updO_there (by decide +kernel), updO_here, bl_snoc]
    apply ws_cons
    apply wx_append (d := .lst (List.map D.bool (said4 own wr)))
    · rfl
    · decide +kernel
    · apply Ev.v
      with_reducible apply EvN.ev
      apply EvN.of_eq (d := .lst (List.map D.bool ([ellF (own ++ own) wr, ellF (own ++ "......" ++ own) wr, ellF (own ++ "..." ++ own) own, ellF own wr, ellF (own ++ own) own])))
      · with_reducible apply ev_listB
        · walk_at "mevsB"
        · simp only [List.length_cons, List.length_nil]; decide +kernel
      · rfl
    · rw [List.length_map]; (try rw [List.length_append]); (try simp only [List.length_append, List.length_cons, List.length_nil]); omega
    rotate_left
    · intro env he hk; exact int_fun env _ he hk
    with_reducible apply andThen_nxt
    rw [updO_here, bl_snoc]
    apply ws_cons
    apply wx_append (d := .lst (List.map D.bool (due4 stay)))
    · rfl
    · decide +kernel
    · apply Ev.v
      with_reducible apply EvN.ev
      apply EvN.of_eq (d := .lst (List.map D.bool ([decide (stay = []), true, false, false, false])))
      · with_reducible apply ev_listB
        · walk_at "mevsB"
        · simp only [List.length_cons, List.length_nil]; decide +kernel
      · rfl
    · rw [List.length_map]; (try rw [List.length_append]); (try simp only [List.length_append, List.length_cons, List.length_nil]); omega
    rotate_left
    · intro env he hk; exact int_fun env _ he hk
    with_reducible apply andThen_nxt
    rw [updO_there (by decide +kernel), updO_here, bl_snoc]
    apply ws_nil
    refine ⟨fun q hq => ?_, ?_⟩
    · simp only [List.mem_cons, List.not_mem_nil, or_false] at hq
      rcases hq with rfl | rfl | rfl <;> rfl
    · rw [es, ed]
      simp only [saidRow, dueRow, hO, hWr, hSt, List.append_assoc, List.cons_append, List.nil_append]
  · intro σ' hσ
    refine ws_weak ?_ (lookup_of_all hσ)
    apply ws_freeze (x := "said") (c := .lst ((saidF marks writings 5).map bl)) (ω' := [("due", .lst ((dueF page 5).map bl))])
    · rfl
    · intro y c hy
      rw [List.lookup_cons] at hy
      cases q : y == ("due" : Str) with
      | true =>
        rw [q] at hy
        rw [eq_of_beq q]; exact hy
      | false => rw [q] at hy; cases hy
    · rfl
    apply ws_freeze (x := "due") (c := .lst ((dueF page 5).map bl)) (ω' := [])
    · rfl
    · intro y c hy; cases hy
    · rfl
    apply ws_cons
    with_reducible apply wx_return
    · walk_at "mev"
    · rfl
end
section
noncomputable def rowAt (said : List (List Bool)) (n : Nat) : List Bool := said.getD n []
noncomputable def quantF (u : UInt64) : UInt64 := Float64.div (Float64.ofInt (truncI (Float64.add (Float64.mul u 4638707616191610880) 4602678819172646912))) 4638707616191610880
noncomputable abbrev tupF (l : List UInt64) : D := .tup (l.map D.flt)
structure PSt where
  made : List (List UInt64)
  told : List (List UInt64)
noncomputable def inF (said : List (List Bool)) (x j : Nat) : Bool := (rowAt said (4 * x + 1)).getD j default
noncomputable def metF (said : List (List Bool)) (told : List (List UInt64)) (x : Nat) : List (List UInt64) := ((List.range told.length).filter fun j => inF said x j || inF said j x).map fun j => told.getD j []
noncomputable def takenP (base : Int) (met : List (List UInt64)) : List Int := (met.filter fun t => Float64.cmp (t.getD 2 0) 0 == some .gt).map fun t => ((truncI (Float64.mul (t.getD 0 0) 4625196817309499392) - base) * 11).fmod 16
noncomputable def roomP (said : List (List Bool)) (base : Int) (told : List (List UInt64)) (x : Nat) : Int := leastI (freeF (takenP base (metF said told x)))
noncomputable def hP (base room : Int) : UInt64 := Float64.div (Float64.ofInt (base + 3 * room)) 4625196817309499392
noncomputable def lP (c : Int) : UInt64 := Float64.div (Float64.ofInt (1 + (c.fdiv 64).fmod 7)) 4620693217682128896
noncomputable def sP (c : Int) : UInt64 := Float64.div (Float64.ofInt ((c.fdiv 448).fmod 5)) 4616189618054758400
noncomputable def madeP (base room c : Int) : List UInt64 := hlsF (hP base room) (lP c) (sP c)
noncomputable def toldP (made : List UInt64) : List UInt64 := rgbF (quantF (made.getD 0 0)) (quantF (made.getD 1 0)) (quantF (made.getD 2 0))
noncomputable def paintStep (said : List (List Bool)) (cells : List Int) (base : Int) (st : PSt) (x : Nat) : PSt :=
  ⟨st.made ++ [madeP base (roomP said base st.told x) (cells.getD x 0)], st.told ++ [toldP (madeP base (roomP said base st.told x) (cells.getD x 0))]⟩
noncomputable def paintSt (said : List (List Bool)) (cells : List Int) (base : Int) (i : Nat) : PSt := (List.range i).foldl (paintStep said cells base) ⟨[], []⟩
/-- what the floats must keep to at x -/
structure PaintOk (said : List (List Bool)) (cells : List Int) (base : Int) (x : Nat) : Prop where
  seen : ∀ t ∈ (paintSt said cells base x).told, t.length = 3 ∧ Float64.isFinite (Float64.mul (t.getD 0 0) 4625196817309499392) = true
  h : Float64.isInf (Float64.ofInt (base + 3 * roomP said base (paintSt said cells base x).told x)) = false
  l : Float64.isInf (Float64.ofInt (1 + ((cells.getD x 0).fdiv 64).fmod 7)) = false
  s : Float64.isInf (Float64.ofInt (((cells.getD x 0).fdiv 448).fmod 5)) = false
  fin : ∀ u ∈ madeP base (roomP said base (paintSt said cells base x).told x) (cells.getD x 0), Float64.isFinite (Float64.add (Float64.mul u 4638707616191610880) 4602678819172646912) = true ∧ Float64.isInf (Float64.ofInt (truncI (Float64.add (Float64.mul u 4638707616191610880) 4602678819172646912))) = false
  rgb : rgbOk (quantF ((madeP base (roomP said base (paintSt said cells base x).told x) (cells.getD x 0)).getD 0 0)) (quantF ((madeP base (roomP said base (paintSt said cells base x).told x) (cells.getD x 0)).getD 1 0)) (quantF ((madeP base (roomP said base (paintSt said cells base x).told x) (cells.getD x 0)).getD 2 0)) = true
theorem paint_succ (said : List (List Bool)) (cells : List Int) (base : Int) (i : Nat) : paintSt said cells base (i + 1) = paintStep said cells base (paintSt said cells base i) i := by
  unfold paintSt; rw [List.range_succ, List.foldl_append]; rfl
theorem paint_len (said : List (List Bool)) (cells : List Int) (base : Int) : ∀ i, (paintSt said cells base i).made.length = i ∧ (paintSt said cells base i).told.length = i
  | 0 => ⟨rfl, rfl⟩
  | i + 1 => by
    have e : paintSt said cells base (i + 1) = paintStep said cells base (paintSt said cells base i) i := by
      unfold paintSt; rw [List.range_succ, List.foldl_append]; rfl
    obtain ⟨h1, h2⟩ := paint_len said cells base i
    rw [e]; simp [paintStep, h1, h2]
noncomputable def ksR (i : Nat) : List Int := (List.range i).map fun n : Nat => (n : Int)
theorem dct_range : ∀ (l : List D) (a n j : Nat), j < n → n ≤ l.length → dctAt ((List.range' a n).map fun m : Nat => (m : Int)) l ((a + j : Nat) : Int) = l[j]?
  | l, a, 0, j, h, _ => by omega
  | [], a, n + 1, j, _, h => by simp at h
  | d :: l, a, n + 1, 0, _, _ => by simp [List.range'_succ, dctAt]
  | d :: l, a, n + 1, j + 1, h, hl => by
    rw [List.range'_succ, List.map_cons, dctAt, if_neg (by omega)]
    have := dct_range l (a + 1) n j (by omega) (by simpa using hl)
    rw [show ((a + 1 + j : Nat) : Int) = ((a + (j + 1) : Nat) : Int) by omega] at this
    rw [this]; simp
theorem dct_at {l : List D} {n j : Nat} (h : j < n) (hl : n ≤ l.length) : dctAt (ksR n) l (j : Int) = l[j]? := by
  have := dct_range l 0 n j h hl
  rw [← List.range_eq_range'] at this
  simpa [ksR] using this
theorem not_ksR (x : Nat) : (x : Int) ∉ ksR x := fun h => by
  obtain ⟨n, hn, e⟩ := List.mem_map.mp h
  have := List.mem_range.mp hn
  omega
theorem ksR_len (x : Nat) : (ksR x).length = x := by simp [ksR]
theorem ksR_succ (x : Nat) : ksR (x + 1) = ksR x ++ [(x : Int)] := by simp [ksR, List.range_succ]
theorem hls_len (h l s : UInt64) : (hlsF h l s).length = 3 := by unfold hlsF; split <;> rfl
local macro_rules | `(tactic| walk_at "mview") => `(tactic| simp only [viewOf, List.map_cons, List.map_nil, OC.d, List.cons_append, List.nil_append])
local macro_rules | `(tactic| walk_at "muser") => `(tactic| first | omega | (simp only [Int.toNat_natCast, List.length_append, List.length_cons, List.length_nil, List.length_map]; omega))
theorem ev_hls {k : Nat} {sc : Scope} {σ : List (Str × D)} {np pos : Pos} {e : Expr} {es : List Expr} {h l s : UInt64} (hk : sc.names.lookup ("hls_to_rgb" : Str) = some .globalImplicit) (hargs : Evs P0 (k + 2) sc σ (e :: es) [.flt h, .flt l, .flt s])
    (he : ∀ env, starEach (e :: es) env = (false, eval e env) :: starEach es env) : Ev P0 (k + 2) sc σ (.Call (.Name "hls_to_rgb" np) (e :: es) [] pos) (tupF (hlsF h l s)) := ev_def 1 (by decide +kernel) (by decide +kernel) hk hargs (fn_hls h l s) he (by decide +kernel)
theorem ev_rgb {k : Nat} {sc : Scope} {σ : List (Str × D)} {np pos : Pos} {e : Expr} {es : List Expr} {r g b : UInt64} (hk : sc.names.lookup ("rgb_to_hls" : Str) = some .globalImplicit) (hargs : Evs P0 (k + 1) sc σ (e :: es) [.flt r, .flt g, .flt b]) (ok : rgbOk r g b = true)
    (he : ∀ env, starEach (e :: es) env = (false, eval e env) :: starEach es env) : Ev P0 (k + 1) sc σ (.Call (.Name "rgb_to_hls" np) (e :: es) [] pos) (tupF (rgbF r g b)) := ev_def 0 (by decide +kernel) (by decide +kernel) hk hargs (fn_rgb r g b ok) he (by decide +kernel)
set_option maxHeartbeats 4000000 in
theorem fn_painted {k : Nat} (cells : List Int) (said : List (List Bool)) (base : Int) (hc : cells.length = 6) (hs : said.length = 20) (hkey : ∀ i, i < 5 → ((rowAt said (4 * i)).filter id).length = 4 - i) (hrow : ∀ r ∈ said, r.length ≤ 100) (hwl : ∀ i, i < 5 → (rowAt said (4 * i + 1)).length = 5) (hok : ∀ i, i < 5 → PaintOk said cells base i) :
    FnDX P0 (k + 4) "_law_painted" [.lst (cells.map D.int), .lst (said.map bl), .int base] (.tup [.dct (ksR 5) ((paintSt said cells base 5).made.map tupF), .dct (ksR 5) ((paintSt said cells base 5).told.map tupF)]) := by
  refine fn_introX (fd := fdN 13) (fdN_mem (by decide +kernel)) (bind3 (by intros; kernel_rfl)) rfl (by decide +kernel) (by decide +kernel) (by decide +kernel) (by decide +kernel) (by decide +kernel) (by decide +kernel) (by decide +kernel) ?_
  show WsX P0 (k + 3) _ _ _ [("cells", .lst (cells.map D.int)), ("said", .lst (said.map bl)), ("base", .int base)] [] _
  have hzz : (2 : Nat) ^ 24 = sizeLine := rfl
  apply wsx_cons
  with_reducible apply wx_tup2 false (c₁ := .fr (.lst (((List.range 5).map fun x : Nat => rowAt said (4 * x)).map bl))) (c₂ := .fr (.lst (((List.range 5).map fun x : Nat => rowAt said (4 * x + 1)).map bl)))
  · with_reducible apply eit_tuple
    · with_reducible apply evps_fr
      · with_reducible apply EvN.ev
        apply ev_compM0 (mk' := bl) (fun x : Nat => rowAt said (4 * x))
        · walk_at "mev"
        · exact items_rng
        · decide +kernel
        · decide +kernel
        · intro x hx
          have hx' := List.mem_range.mp hx
          have hx5 : x < 5 := hx'
          with_reducible apply Ev.of_eq
          · walk_at "mev"
          · have e : (4 * (x : Int)).toNat = 4 * x := by omega
            rw [e]; rfl
      · with_reducible apply evps_fr
        · with_reducible apply EvN.ev
          apply ev_compM0 (mk' := bl) (fun x : Nat => rowAt said (4 * x + 1))
          · walk_at "mev"
          · exact items_rng
          · decide +kernel
          · decide +kernel
          · intro x hx
            have hx' := List.mem_range.mp hx
            have hx5 : x < 5 := hx'
            with_reducible apply Ev.of_eq
            · walk_at "mev"
            · have e : (4 * (x : Int) + 1).toNat = 4 * x + 1 := by omega
              rw [e]; rfl
        · exact evps_nil
        · walk_at "mrfl"
      · walk_at "mrfl"
    · simp only [List.length_cons, List.length_nil]; omega
  · exact ⟨⟨by decide +kernel, rfl⟩, ⟨by decide +kernel, rfl⟩, trivial⟩
  rotate_left
  · intro env he; rfl
  · intro env he hk
    obtain ⟨⟩ := env
    cases he
    kernel_rfl
  show WsX P0 (k + 3) _ _ _ [("within", .lst (((List.range 5).map fun x : Nat => rowAt said (4 * x + 1)).map bl)), ("ahead", .lst (((List.range 5).map fun x : Nat => rowAt said (4 * x)).map bl)), ("cells", .lst (cells.map D.int)), ("said", .lst (said.map bl)), ("base", .int base)] [] _
  apply wsx_cons
  with_reducible apply wx_tup2 false
  · with_reducible apply eit_tuple
    · with_reducible apply evps_own
      · exact own_dct
      · with_reducible apply evps_own
        · exact own_dct
        · exact evps_nil
        · walk_at "mrfl"
      · walk_at "mrfl"
    · decide +kernel
  · exact ⟨⟨by decide +kernel, rfl, rfl⟩, ⟨by decide +kernel, rfl, rfl⟩, trivial⟩
  rotate_left
  · intro env he; rfl
  · intro env he hk
    obtain ⟨⟩ := env
    cases he
    kernel_rfl
  show WsX P0 (k + 3) _ _ _ [("within", .lst (((List.range 5).map fun x : Nat => rowAt said (4 * x + 1)).map bl)), ("ahead", .lst (((List.range 5).map fun x : Nat => rowAt said (4 * x)).map bl)), ("cells", .lst (cells.map D.int)), ("said", .lst (said.map bl)), ("base", .int base)] [("told", .dct [] []), ("made", .dct [] [])] _
  apply wsx_forLam (x := "guest") (n := 5) (gk := fun i => -((4 - i : Nat) : Int)) (Inv := fun i σ' ω' => ω' = [(("told" : Str), OC.dct (ksR i) ((paintSt said cells base i).told.map tupF)), ("made", OC.dct (ksR i) ((paintSt said cells base i).made.map tupF))] ∧ ∀ q ∈ [(("within" : Str), D.lst (((List.range 5).map fun x : Nat => rowAt said (4 * x + 1)).map bl)), ("cells", .lst (cells.map D.int)), ("base", .int base)], σ'.lookup q.1 = some q.2)
  · decide +kernel
  · decide +kernel
  · intro env; rfl
  · intros; kernel_rfl
  · decide +kernel
  · decide +kernel
  · decide
  · intro i j hij hj
    show -((4 - i : Nat) : Int) < -((4 - j : Nat) : Int)
    omega
  · with_reducible apply Ev.of_eq
    · walk_at "mev"
    · rfl
  · intro i hi
    have hk := hkey i hi
    have hlen : (rowAt said (4 * i)).length ≤ 100 := by
      unfold rowAt
      rw [List.getD_eq_getElem?_getD, List.getElem?_eq_getElem (by omega)]
      exact hrow _ (List.getElem_mem _)
    have e1 : ((List.range 5).map fun x : Nat => rowAt said (4 * x)).getD (i : Int).toNat default = rowAt said (4 * i) := by
      rw [List.getD_eq_getElem?_getD, Int.toNat_natCast, List.getElem?_map, List.getElem?_range hi]; rfl
    with_reducible apply Ev.of_eq
    · with_reducible apply ev_unary
      · with_reducible apply ev_len
        · decide +kernel
        · with_reducible apply evs_cons
          · with_reducible apply EvN.ev
            apply ev_filt (mk := D.bool) (xs := rowAt said (4 * i)) (pf := id)
            · with_reducible apply Ev.of_eq
              · walk_at "mev"
              · rw [e1]
            · exact items_lst
            · omega
            · decide +kernel
            · intro b hb
              with_reducible apply ets_one
              show Et _ _ _ _ _ b
              with_reducible apply et_bool
              · walk_at "mev"
              · walk_at "mrfl"
            · intro b hb _
              walk_at "mev"
            · walk_at "mrfl"
          · exact evs_nil
          · walk_at "mrfl"
        · apply c_len_list
          rw [List.length_map]
          have := List.length_filter_le (id : Bool → Bool) (rowAt said (4 * i))
          omega
        · walk_at "mrfl"
        · walk_at "mrfl"
      · with_reducible exact o_neg
    · rw [List.length_map, hk]
  · intro env; rfl
  · decide +kernel
  · refine ⟨rfl, fun q hq => ?_⟩
    simp only [List.mem_cons, List.not_mem_nil, or_false] at hq
    rcases hq with rfl | rfl | rfl <;> rfl
  · rintro x σ' ω' hx ⟨rfl, hσ⟩
    refine ⟨rfl, ?_⟩
    obtain ⟨l1, l2⟩ := paint_len said cells base x
    obtain ⟨hseen, hh, hl, hss, hfin, hrgb⟩ := hok x hx
    generalize hM : (paintSt said cells base x).made = M at *
    generalize hT : (paintSt said cells base x).told = T at *
    refine ws_weak (σ' := [("x", .int (x : Int)), ("within", .lst (((List.range 5).map fun x : Nat => rowAt said (4 * x + 1)).map bl)), ("cells", .lst (cells.map D.int)), ("base", .int base)]) ?_ (fun y d hy => ?_)
    rotate_left
    · rw [List.lookup_cons] at hy ⊢
      cases q : y == ("x" : Str) with
      | true => rw [q] at hy; exact hy
      | false => rw [q] at hy; exact lookup_of_all hσ y d hy
    apply ws_cons
    with_reducible apply wx_assignU (d := .lst ((metF said T x).map tupF))
    · with_reducible apply evu_view
      · walk_at "mview"
        show EvU _ _ _ _ _ (.lst ((((List.range T.length).filter fun j : Nat => inF said x j || inF said j x).map fun j : Nat => T.getD j []).map tupF))
        apply evu_compM (mk' := tupF) (mk := fun j : Nat => D.int (j : Int)) (xs := List.range T.length) (fun j : Nat => inF said x j || inF said j x) (fun j : Nat => T.getD j [])
        · walk_at "mev"
        · show some ((ksR x).map D.int) = _
          rw [l2]
          unfold ksR
          rw [List.map_map]
          rfl
        · rw [List.length_range]; omega
        · decide +kernel
        · intro j hj
          have hj' := List.mem_range.mp hj
          have hj5 : j < 5 := by omega
          have wa : ∀ i : Nat, i < 5 → ((List.range 5).map fun x : Nat => rowAt said (4 * x + 1)).getD (i : Int).toNat default = rowAt said (4 * i + 1) := fun i hi => by
            rw [List.getD_eq_getElem?_getD, Int.toNat_natCast, List.getElem?_map, List.getElem?_range hi]; rfl
          have hx1 := hwl x hx
          have hj1 := hwl j hj5
          with_reducible apply ets_one
          with_reducible apply Et.of_eq
          · with_reducible apply et_or
            · with_reducible apply et_bool
              · with_reducible apply ev_sub
                · with_reducible apply Ev.of_eq
                  · walk_at "mev"
                  · exact congrArg bl (wa x hx)
                · walk_at "mev"
                · rfl
                · apply g_listA (mk := D.bool) (l := rowAt said (4 * x + 1))
                  · omega
                  · simp only [Int.toNat_natCast]; omega
                  · omega
                · walk_at "mrfl"
              · walk_at "mrfl"
            · with_reducible apply et_or
              · with_reducible apply et_bool
                · with_reducible apply ev_sub
                  · with_reducible apply Ev.of_eq
                    · walk_at "mev"
                    · exact congrArg bl (wa j hj5)
                  · walk_at "mev"
                  · rfl
                  · apply g_listA (mk := D.bool) (l := rowAt said (4 * j + 1))
                    · omega
                    · simp only [Int.toNat_natCast]; omega
                    · omega
                  · walk_at "mrfl"
                · walk_at "mrfl"
              · exact et_or_nil
          · rw [Bool.or_false]; rfl
        · intro j hj _
          have hj' := List.mem_range.mp hj
          with_reducible apply ev_sub
          · walk_at "mev"
          · walk_at "mev"
          · rfl
          · apply g_dct
            rw [dct_at (by omega) (by rw [List.length_map]; omega), List.getElem?_map, List.getElem?_eq_getElem hj', List.getD_eq_getElem?_getD, List.getElem?_eq_getElem hj']
            try rfl
          · walk_at "mrfl"
      · intro d hd
        obtain ⟨n, _, rfl⟩ := List.mem_map.mp hd
        unfold tupF
        rw [flat_tup]
        intro d hd
        obtain ⟨n, _, rfl⟩ := List.mem_map.mp hd
        rfl
    · decide +kernel
    · rfl
    rotate_left
    · intro env he hk
      obtain ⟨⟩ := env
      cases he
      kernel_rfl
    with_reducible apply andThen_nxt
    have hmet : (metF said T x).length ≤ 5 := by
      unfold metF
      rw [List.length_map]
      have := List.length_filter_le (fun j : Nat => inF said x j || inF said j x) (List.range T.length)
      rw [List.length_range] at this
      omega
    have hmm : ∀ t ∈ metF said T x, t ∈ T := fun t ht => by
      unfold metF at ht
      obtain ⟨j, hj, rfl⟩ := List.mem_map.mp ht
      have hj := List.mem_range.mp (List.mem_filter.mp hj).1
      rw [List.getD_eq_getElem?_getD, List.getElem?_eq_getElem hj]
      exact List.getElem_mem _
    generalize hMet : metF said T x = met at *
    apply ws_cons
    with_reducible apply wx_assign (d := .lst ((takenP base met).map D.int))
    · with_reducible apply EvN.ev
      show EvN _ _ _ _ _ (.lst (((met.filter fun t : List UInt64 => Float64.cmp (t.getD 2 0) 0 == some .gt).map fun t : List UInt64 => ((truncI (Float64.mul (t.getD 0 0) 4625196817309499392) - base) * 11).fmod 16).map D.int))
      apply ev_compM (mk' := D.int) (mk := tupF) (fun t : List UInt64 => Float64.cmp (t.getD 2 0) 0 == some .gt) (fun t : List UInt64 => ((truncI (Float64.mul (t.getD 0 0) 4625196817309499392) - base) * 11).fmod 16)
      · walk_at "mev"
      · exact items_lst
      · omega
      · decide +kernel
      · intro t ht
        obtain ⟨t3, tf⟩ := hseen t (hmm t ht)
        with_reducible apply ets_one
        with_reducible apply Et.of_eq
        · walk_at "met"
        · rfl
      · intro t ht _
        obtain ⟨t3, tf⟩ := hseen t (hmm t ht)
        have tf' : Float64.isFinite (Float64.mul (t.getD (0 : Int).toNat default) 4625196817309499392) = true := tf
        with_reducible apply Ev.of_eq
        · walk_at "mev"
        · rfl
    · decide +kernel
    · rfl
    rotate_left
    · intro env he
      obtain ⟨⟩ := env
      cases he
      kernel_rfl
    with_reducible apply andThen_nxt
    have ht5 : (takenP base met).length ≤ 5 := by
      unfold takenP; rw [List.length_map]; exact Nat.le_trans (List.length_filter_le _ _) hmet
    have hne := free_ne ht5
    have hroom : roomP said base T x = leastI (freeF (takenP base met)) := by unfold roomP; rw [hMet]
    generalize hTk : takenP base met = taken at *
    apply ws_cons
    with_reducible apply wx_assign (d := .int (roomP said base T x))
    · rw [hroom]
      with_reducible apply ev_min
      · decide +kernel
      · with_reducible apply evs_cons
        · with_reducible apply EvN.ev
          apply ev_compM (mk' := D.int) (fun n : Nat => !decide ((n : Int) ∈ taken)) (fun n : Nat => (n : Int))
          · walk_at "mev"
          · exact items_rng
          · decide +kernel
          · decide +kernel
          · intro n hn
            with_reducible apply ets_one
            with_reducible apply Et.of_eq
            · walk_at "met"
            · rfl
          · intro n hn _
            walk_at "mev"
        · exact evs_nil
        · walk_at "mrfl"
      · exact c_min_list hne
      · walk_at "mrfl"
      · walk_at "mrfl"
    · decide +kernel
    · rfl
    rotate_left
    · intro env he; rfl
    with_reducible apply andThen_nxt
    generalize hRm : roomP said base T x = room at *
    have hl' : Float64.isInf (Float64.ofInt (1 + ((cells.getD (x : Int).toNat default).fdiv 64).fmod 7)) = false := hl
    have hs' : Float64.isInf (Float64.ofInt (((cells.getD (x : Int).toNat default).fdiv 448).fmod 5)) = false := hss
    apply ws_cons
    apply wx_setD (d := tupF (madeP base room (cells.getD x 0))) (ks := ksR x) (l := M.map tupF) (i := (x : Int))
    · rfl
    · decide +kernel
    · apply Ev.v
      apply ev_hls (k := k + 1) (h := hP base room) (l := lP (cells.getD x 0)) (s := sP (cells.getD x 0))
      · decide +kernel
      · with_reducible apply evs_eq
        · walk_at "mevs"
        · rfl
      · walk_at "mrfl"
    · apply Ev.v
      walk_at "mev"
    · exact not_ksR x
    · rw [ksR_len]; show x ≤ 2 ^ 24; omega
    rotate_left
    · intro env he; kernel_rfl
    have hupd : updO [(("told" : Str), OC.dct (ksR x) (T.map tupF)), ("made", OC.dct (ksR x) (M.map tupF))] "made" (OC.dct (ksR x ++ [(x : Int)]) (M.map tupF ++ [tupF (madeP base room (cells.getD x 0))])) = [(("told" : Str), OC.dct (ksR x) (T.map tupF)), (("made" : Str), OC.dct (ksR (x + 1)) ((M ++ [madeP base room (cells.getD x 0)]).map tupF))] := by
      rw [ksR_succ, List.map_append]; rfl
    rw [hupd]
    with_reducible apply andThen_nxt
    have hlen3 : (madeP base room (cells.getD x 0)).length = 3 := hls_len _ _ _
    generalize hMd : madeP base room (cells.getD x 0) = md at *
    apply ws_cons
    apply wx_tup3 (c₁ := .fr (.flt (quantF (md.getD 0 0)))) (c₂ := .fr (.flt (quantF (md.getD 1 0)))) (c₃ := .fr (.flt (quantF (md.getD 2 0))))
    · have hq : [Part.fr (.flt (quantF (md.getD 0 0))), .fr (.flt (quantF (md.getD 1 0))), .fr (.flt (quantF (md.getD 2 0)))] = ((md.map quantF).map D.flt).map Part.fr := by
        match md, hlen3 with
        | [a, b, c], _ => rfl
      rw [hq]
      apply eit_frozen (d := .lst ((md.map quantF).map D.flt))
      · apply ev_viewL
        · walk_at "mview"
          apply ev_compM0 (mk' := D.flt) (mk := D.flt) (src := tupF md) quantF
          · with_reducible apply ev_sub
            · walk_at "mev"
            · walk_at "mev"
            · rfl
            · apply g_dct
              rw [dct_at (by omega) (by simp [l1]), List.getElem?_map, List.getElem?_append_right (by omega), l1]
              simp
            · walk_at "mrfl"
          · rfl
          · rw [hlen3]; decide +kernel
          · decide +kernel
          · intro u hu
            obtain ⟨f1, f2⟩ := hfin u hu
            unfold quantF
            walk_at "mev"
        · intro d hd
          obtain ⟨n, _, rfl⟩ := List.mem_map.mp hd
          rfl
      · exact .inl rfl
      · simp [hlen3]
    · exact ⟨⟨by decide +kernel, rfl⟩, ⟨by decide +kernel, rfl⟩, ⟨by decide +kernel, rfl⟩, trivial⟩
    rotate_left
    · intro env he; rfl
    · intro env he hk
      obtain ⟨⟩ := env
      cases he
      kernel_rfl
    with_reducible apply andThen_nxt
    dsimp only [pushes, pushP]
    apply ws_cons
    apply wx_setD (d := tupF (toldP md)) (ks := ksR x) (l := T.map tupF) (i := (x : Int))
    · rfl
    · decide +kernel
    · apply Ev.v
      apply ev_rgb (k := k + 2) (r := quantF (md.getD 0 0)) (g := quantF (md.getD 1 0)) (b := quantF (md.getD 2 0))
      · decide +kernel
      · walk_at "mevs"
      · exact hrgb
      · walk_at "mrfl"
    · apply Ev.v
      walk_at "mev"
    · exact not_ksR x
    · rw [ksR_len]; show x ≤ 2 ^ 24; omega
    rotate_left
    · intro env he; kernel_rfl
    have hupd : updO [(("told" : Str), OC.dct (ksR x) (T.map tupF)), (("made" : Str), OC.dct (ksR (x + 1)) ((M ++ [md]).map tupF))] "told" (OC.dct (ksR x ++ [(x : Int)]) (T.map tupF ++ [tupF (toldP md)])) = [(("told" : Str), OC.dct (ksR (x + 1)) ((T ++ [toldP md]).map tupF)), (("made" : Str), OC.dct (ksR (x + 1)) ((M ++ [md]).map tupF))] := by
      rw [ksR_succ, List.map_append (l₁ := T)]; rfl
    rw [hupd]
    with_reducible apply andThen_nxt
    with_reducible apply ws_nil
    with_reducible apply andThen_nxt
    refine ⟨?_, fun q hq => ?_⟩
    · rw [paint_succ]
      unfold paintStep
      rw [hM, hT, hRm, hMd]
    · simp only [List.mem_cons, List.not_mem_nil, or_false] at hq
      rcases hq with rfl | rfl | rfl <;> rfl
  · rintro σ' ω' ⟨rfl, hσ⟩
    apply ws_freeze (x := ("made" : Str)) (c := OC.dct (ksR 5) ((paintSt said cells base 5).made.map tupF)) (ω' := [(("told" : Str), OC.dct (ksR 5) ((paintSt said cells base 5).told.map tupF))])
    · rfl
    · intro y c hy
      rw [List.lookup_cons] at hy ⊢
      cases q : y == ("told" : Str) with
      | true => rw [q] at hy; exact hy
      | false => rw [q] at hy; cases hy
    · rfl
    apply ws_freeze (x := ("told" : Str)) (c := OC.dct (ksR 5) ((paintSt said cells base 5).told.map tupF)) (ω' := [])
    · rfl
    · intro y c hy; cases hy
    · rfl
    with_reducible apply ws_cons
    apply wx_return (d := .tup [.dct (ksR 5) ((paintSt said cells base 5).made.map tupF), .dct (ksR 5) ((paintSt said cells base 5).told.map tupF)])
    · apply EvN.ev
      apply ev_tuple
      · show Evs P0 _ _ ((("told" : Str), D.dct (ksR 5) ((paintSt said cells base 5).told.map tupF)) :: (("made" : Str), D.dct (ksR 5) ((paintSt said cells base 5).made.map tupF)) :: σ') _ _
        walk_at "mevs"
      · show 2 ≤ 2 ^ 24; omega
    · rfl
  · intros; rfl
end
section
noncomputable def baseOf (cells : List Int) : Int := ((cells.getD 5 0).fdiv 13440).fmod 32
noncomputable def signsOf (cells : List Int) : List Str := signsF ((cells.getD 5 0).fdiv 2)
noncomputable def staysF (page : List Int) : List (List Int) := (List.range 5).map fun x : Nat => slcG page (some (page.idxOf (x : Int) : Int)) (some (10 - (page.reverse.idxOf (x : Int) : Int))) none
noncomputable def rowF (signs : List Str) (stay : List Int) : Str := Txt.join "" (stay.map fun x => signs.getD x.toNat "")
noncomputable def rowsF (page : List Int) (signs : List Str) : List Str := (staysF page ++ [page]).map (rowF signs)
noncomputable def shareF (cells : List Int) (x : Nat) : Int := ((cells.getD x 0).fdiv 448).fmod 5
noncomputable def sharesF (cells : List Int) : List Int := (List.range 5).map (shareF cells)
noncomputable def lightF (cells : List Int) (x : Nat) : Int := 1 + ((cells.getD x 0).fdiv 64).fmod 7
noncomputable def mF (base : Int) (rooms : List Int) (x : Nat) : Int := (base + 3 * rooms.getD x 0).fmod 16
noncomputable def farF (made : List UInt64) (parts : List Int) (i : Nat) : Bool :=
  let u := Float64.mul (Float64.abs (Float64.sub (Float64.mul (made.getD i 0) 4638707616191610880) (Float64.ofInt (parts.getD i 0)))) 4697254411347427328
  Float64.cmp u 4607182418800017408 == some .gt || Float64.cmp u 4607182418800017408 == some .eq
noncomputable def dueT (base : Int) (cells rooms : List Int) (x : Nat) : List UInt64 :=
  [if 0 < shareF cells x then Float64.div (Float64.ofInt (mF base rooms x)) 4625196817309499392 else 0, Float64.div (Float64.ofInt (lightF cells x)) 4620693217682128896, Float64.div (Float64.ofInt (shareF cells x)) 4616189618054758400]
noncomputable def huesF (told : List (List UInt64)) : List Int := ((List.range 5).filter fun x : Nat => Float64.cmp ((told.getD x []).getD 2 0) 0 == some .gt).map fun x : Nat => truncI (Float64.mul ((told.getD x []).getD 0 0) 4625196817309499392)
theorem slcG_mem {α : Type} {l : List α} {lo hi st : Option Int} {x : α} (h : x ∈ slcG l lo hi st) : x ∈ l := by
  unfold slcG at h
  obtain ⟨i, _, e⟩ := List.mem_filterMap.mp h
  exact List.mem_of_getElem? e
theorem stays_len {page : List Int} : (staysF page).length = 5 := by unfold staysF; rw [List.length_map, List.length_range]
theorem stays_sub {page stay : List Int} (h : stay ∈ staysF page ++ [page]) : (∀ x ∈ stay, x ∈ page) ∧ stay.length ≤ page.length := by
  rcases List.mem_append.mp h with h | h
  · unfold staysF at h
    obtain ⟨x, _, rfl⟩ := List.mem_map.mp h
    exact ⟨fun y hy => slcG_mem hy, slcG_le _ _ _⟩
  · rw [List.mem_singleton.mp h]
    exact ⟨fun y hy => hy, Nat.le_refl _⟩
theorem rows_len {page : List Int} {signs : List Str} : (rowsF page signs).length = 6 := by unfold rowsF; rw [List.length_map, List.length_append, stays_len]; rfl
/-- what the writers of a row keep to -/
structure RowOk (x : Str) : Prop where
  h0 : x.length ≤ 1000
  h1 : (esc1 x).length ≤ 1000
  h2 : (esc2 x).length ≤ 1000
  h3 : (esc3 x).length ≤ 1000
  h4 : (esc4 x).length ≤ 1000
  h5 : (esc5 x).length ≤ 1000
  hx : ∀ c ∈ x.cps.toList, ∃ y, tabL.lookup ⟨#[c]⟩ = some y
  hj : JoinOk "" (spellL x) = true
  hz : x.cps.toList.length ≤ sizeLine
  eq : escF x = spellF x
structure LawOk (cells page : List Int) (signs : List Str) (base : Int) (said : List (List Bool)) (made told : List (List UInt64)) (rooms : List Int) (most : Int) : Prop where
  cells6 : cells.length = 6
  hp : ∀ x : Nat, x < 5 → (x : Int) ∈ page
  hr : ∀ x ∈ page, 0 ≤ x ∧ x < 5
  hpz : page.length = 10
  hins : ∀ i, (insSt page i).length ≤ 5
  signs5 : signs.length = 5
  hbase : 0 ≤ base ∧ base < 32
  joins : ∀ stay ∈ staysF page ++ [page], JoinOk "" (stay.map fun x => signs.getD x.toNat "") = true
  rows : ∀ r ∈ rowsF page signs, RowOk r
  sgn : ∀ r ∈ signs, RowOk r
  hml : ∀ x ∈ signs.map escF, x.length ≤ 100
  hwl : ∀ x ∈ (rowsF page signs).map escF, x.length ≤ 500
  hsaid : saidF (signs.map escF) ((rowsF page signs).map escF) 5 = said
  hdue : dueF page 5 = said
  said20 : said.length = 20
  hkey : ∀ i, i < 5 → ((rowAt said (4 * i)).filter id).length = 4 - i
  hrow : ∀ r ∈ said, r.length ≤ 100
  hw5 : ∀ i, i < 5 → (rowAt said (4 * i + 1)).length = 5
  paint : ∀ i, i < 5 → PaintOk said cells base i
  hmade : (paintSt said cells base 5).made = made
  htold : (paintSt said cells base 5).told = told
  hrooms : roomsF page (sharesF cells) = (rooms, most)
  rooms5 : rooms.length = 5
  roomsB : ∀ r ∈ rooms, 0 ≤ r ∧ r < 6
  near : ∀ x, x < 5 → ∀ i, i < 3 → farF (made.getD x []) (partsF (mF base rooms x) (lightF cells x) (shareF cells x)) i = false
  partB : ∀ x, x < 5 → ∀ i, i < 3 → ((partsF (mF base rooms x) (lightF cells x) (shareF cells x)).getD i 0).natAbs < 2 ^ 1023
  made3 : ∀ t ∈ made, t.length = 3
  told3 : ∀ t ∈ told, t.length = 3
  toldF : ∀ t ∈ told, Float64.isFinite (Float64.mul (t.getD 0 0) 4625196817309499392) = true
  same : ∀ x, x < 5 → okL ((told.getD x []).map D.flt) ((dueT base cells rooms x).map D.flt) = true ∧ eqL ((told.getD x []).map D.flt) ((dueT base cells rooms x).map D.flt) = true
  infM : ∀ x, x < 5 → Float64.isInf (Float64.ofInt (mF base rooms x)) = false
  infL : ∀ x, x < 5 → Float64.isInf (Float64.ofInt (lightF cells x)) = false
  infS : ∀ x, x < 5 → Float64.isInf (Float64.ofInt (shareF cells x)) = false
  count : (unlike (huesF told) : Int) = most
theorem ev_ifF {k : Nat} {sc : Scope} {σ : List (Str × D)} {t a b : Expr} {pos : Pos} {c : Bool} {u v r : UInt64} (ht : Et P0 k sc σ t c) (ha : c = true → Ev P0 k sc σ a (.flt u)) (hb : c = false → Ev P0 k sc σ b (.flt v)) (hr : r = if c then u else v) : Ev P0 k sc σ (.IfExp t a b pos) (.flt r) := by
  subst hr
  refine (ev_ifexp ht ha hb).of_eq ?_
  cases c <;> rfl
noncomputable abbrev il (l : List Int) : D := .lst (l.map D.int)
local macro_rules | `(tactic| walk_at "muser") => `(tactic| first | omega | (simp only [Int.toNat_natCast, List.length_append, List.length_cons, List.length_nil, List.length_map, List.length_reverse]; omega))
local macro_rules | `(tactic| walk_at "muev") => `(tactic| first
  | ((with_reducible apply ev_index); (· walk_at "mev"); (· walk_at "mev"); (· walk_at "mside"); (· walk_at "mside"); (· walk_at "mrfl"); (· rfl); (· walk_at "mrfl")))
set_option maxHeartbeats 4000000 in
theorem law_walk {k : Nat} (vs : List Int) (hz : vs.length ≤ sizeLine) {page : List Int} {signs : List Str} {base : Int} {said : List (List Bool)} {made told : List (List UInt64)} {rooms : List Int} {most : Int}
    (hpage : pageF (cellsF vs) = page) (hsigns : signsOf (cellsF vs) = signs) (hbaseE : baseOf (cellsF vs) = base) (ok : LawOk (cellsF vs) page signs base said made told rooms most) :
    WsX P0 (k + 4) (fdN 14).scope false (fdN 14).body [("script", .arg vs)] [] (fun d => d = .bool true) := by
  obtain ⟨cells6, hp, hr, hpz, hins, signs5, hbase, joins, hrows, sgn, hml, hwl, hsaid, hdue, said20, hkey, hrow, hw5, paint, hmade, htold, hrooms, rooms5, roomsB, near, partB, made3, told3, toldF, same, infM, infL, infS, count⟩ := ok
  have hzz : (2 : Nat) ^ 24 = sizeLine := rfl
  show WsX P0 (k + 4) _ _ _ [("script", .arg vs)] [] _
  apply wsx_cons
  with_reducible apply wx_assign (d := .lst ((cellsF vs).map D.int))
  · apply ev_def (k := k + 4) 6 (by decide +kernel) (by decide +kernel) (by decide +kernel) ?_ (fn_cells vs hz) ?_ (by decide +kernel)
    · walk_at "mevs"
    · walk_at "mrfl"
  · decide +kernel
  · rfl
  rotate_left
  · intro env he; rfl
  with_reducible apply andThen_nxt
  generalize hC : cellsF vs = cells at *
  apply wsx_cons
  with_reducible apply wx_assign (d := .lst (page.map D.int))
  · rw [← hpage]
    apply ev_def (k := k + 4) 7 (by decide +kernel) (by decide +kernel) (by decide +kernel) ?_ (fn_page cells cells6) ?_ (by decide +kernel)
    · walk_at "mevs"
    · walk_at "mrfl"
  · decide +kernel
  · rfl
  rotate_left
  · intro env he; rfl
  with_reducible apply andThen_nxt
  apply wsx_cons
  with_reducible apply wx_assign (d := .lst (signs.map D.str))
  · rw [← hsigns]
    apply ev_def (k := k + 4) 8 (by decide +kernel) (by decide +kernel) (by decide +kernel) ?_ (fn_signs _) ?_ (by decide +kernel)
    · with_reducible apply evs_eq
      · walk_at "mevs"
      · rfl
    · walk_at "mrfl"
  · decide +kernel
  · rfl
  rotate_left
  · intro env he; rfl
  with_reducible apply andThen_nxt
  apply wsx_cons
  with_reducible apply wx_assign (d := .int base)
  · with_reducible apply Ev.of_eq
    · walk_at "mev"
    · exact congrArg D.int hbaseE
  · decide +kernel
  · rfl
  rotate_left
  · intro env he; rfl
  with_reducible apply andThen_nxt
  apply wsx_cons
  with_reducible apply wx_assignU (d := .lst ((staysF page).map il))
  · apply EvU.v
    apply evu_compM0 (mk' := il) (mk := fun i : Nat => D.int (i : Int)) (fun x : Nat => slcG page (some (page.idxOf (x : Int) : Int)) (some (10 - (page.reverse.idxOf (x : Int) : Int))) none)
    · walk_at "mev"
    · exact items_rng
    · decide +kernel
    · decide +kernel
    · intro x hx
      have hx5 : x < 5 := List.mem_range.mp hx
      have hxp := hp x hx5
      have hxr : (x : Int) ∈ page.reverse := List.mem_reverse.mpr hxp
      walk_at "mev"
  · decide +kernel
  · rfl
  rotate_left
  · intro env he hk
    obtain ⟨⟩ := env
    cases he
    kernel_rfl
  with_reducible apply andThen_nxt
  apply wsx_cons
  with_reducible apply wx_assignU (d := .lst ((rowsF page signs).map D.str))
  · apply EvU.v
    apply evu_compM0 (mk' := D.str) (mk := il) (xs := staysF page ++ [page]) (rowF signs)
    · with_reducible apply ev_binop
      · walk_at "mev"
      · with_reducible apply EvN.ev
        apply ev_listM (mk := il) (l := [page])
        · show Evs _ _ _ _ _ [.lst (page.map D.int)]
          walk_at "mevs"
        · show 1 ≤ 2 ^ 24; omega
      · apply lm_add
        rw [stays_len]
        show 5 + 1 ≤ 2 ^ 24; omega
    · exact items_lst
    · rw [List.length_append, stays_len]
      show 5 + 1 ≤ 2 ^ 24; omega
    · decide +kernel
    · intro stay hst
      apply ev_meth (T := "str") (id := "str.join") (ds := [.lst ((stay.map fun x => signs.getD x.toNat "").map D.str)]) (a := .str "") (d := .str (rowF signs stay))
      · walk_at "mev"
      · rfl
      · exact F.plainAttrs_str
      · exact F.slot_str_join
      · exact F.type_str_join
      · with_reducible apply evs_cons
        · with_reducible apply EvN.ev
          apply ev_compM0 (mk' := D.str) (mk := D.int) (fun x : Int => signs.getD x.toNat "")
          · walk_at "mev"
          · exact items_lst
          · have := (stays_sub hst).2
            omega
          · decide +kernel
          · intro x hx
            have hxr : 0 ≤ x ∧ x < 5 := hr x ((stays_sub hst).1 x hx)
            with_reducible apply Ev.of_eq
            · walk_at "mev"
            · rfl
        · exact evs_nil
        · walk_at "mrfl"
      · exact c_join (joins stay hst)
  · decide +kernel
  · rfl
  rotate_left
  · intro env he hk
    obtain ⟨⟩ := env
    cases he
    kernel_rfl
  with_reducible apply andThen_nxt
  have hrl : (rowsF page signs).length = 6 := rows_len
  apply wsx_cons
  with_reducible apply wx_assignU (d := .lst (((rowsF page signs).map escF).map D.str))
  · apply EvU.v
    apply evu_compM0 (mk' := D.str) (mk := D.str) (xs := rowsF page signs) escF
    · walk_at "mev"
    · exact items_lst
    · omega
    · decide +kernel
    · intro r hr
      have o := hrows r hr
      apply ev_def (k := k + 4) 5 (by decide +kernel) (by decide +kernel) (by decide +kernel) ?_ (fn_esc r o.h0 o.h1 o.h2 o.h3 o.h4 o.h5) ?_ (by decide +kernel)
      · walk_at "mevs"
      · walk_at "mrfl"
  · decide +kernel
  · rfl
  rotate_left
  · intro env he hk
    obtain ⟨⟩ := env
    cases he
    kernel_rfl
  with_reducible apply andThen_nxt
  apply wsx_cons
  with_reducible apply wx_assignU (d := .lst ((signs.map escF).map D.str))
  · apply EvU.v
    apply evu_compM0 (mk' := D.str) (mk := D.str) (xs := signs) escF
    · walk_at "mev"
    · exact items_lst
    · omega
    · decide +kernel
    · intro r hr
      have o := sgn r hr
      apply ev_def (k := k + 4) 5 (by decide +kernel) (by decide +kernel) (by decide +kernel) ?_ (fn_esc r o.h0 o.h1 o.h2 o.h3 o.h4 o.h5) ?_ (by decide +kernel)
      · walk_at "mevs"
      · walk_at "mrfl"
  · decide +kernel
  · rfl
  rotate_left
  · intro env he hk
    obtain ⟨⟩ := env
    cases he
    kernel_rfl
  with_reducible apply andThen_nxt
  have eqw : (rowsF page signs).map escF = (rowsF page signs).map spellF := List.map_congr_left fun r hr => (hrows r hr).eq
  have eqm : signs.map escF = signs.map spellF := List.map_congr_left fun r hr => (sgn r hr).eq
  apply wsx_cons
  apply wx_if (c := false)
  · with_reducible apply Et.of_eq
    · with_reducible apply et_or
      · with_reducible apply et_cmp
        · walk_at "mev"
        · with_reducible apply EvN.ev
          apply ev_compM0 (mk' := D.str) (mk := D.str) (xs := rowsF page signs) spellF
          · walk_at "mev"
          · exact items_lst
          · omega
          · decide +kernel
          · intro r hr
            have o := hrows r hr
            apply ev_def (k := k + 4) 9 (by decide +kernel) (by decide +kernel) (by decide +kernel) ?_ (fn_spell r o.hx o.hj o.hz) ?_ (by decide +kernel)
            · walk_at "mevs"
            · walk_at "mrfl"
        · with_reducible exact ls_ne
        · with_unfolding_all rfl
      · with_reducible apply et_or
        · with_reducible apply et_cmp
          · walk_at "mev"
          · with_reducible apply EvN.ev
            apply ev_compM0 (mk' := D.str) (mk := D.str) (xs := signs) spellF
            · walk_at "mev"
            · exact items_lst
            · omega
            · decide +kernel
            · intro r hr
              have o := sgn r hr
              apply ev_def (k := k + 4) 9 (by decide +kernel) (by decide +kernel) (by decide +kernel) ?_ (fn_spell r o.hx o.hj o.hz) ?_ (by decide +kernel)
              · walk_at "mevs"
              · walk_at "mrfl"
          · with_reducible exact ls_ne
          · with_unfolding_all rfl
        · exact et_or_nil
    · rw [eqw, eqm]; simp
  · intro h; cases h
  intro _
  with_reducible apply ws_nil
  with_reducible apply andThen_nxt
  apply wsx_cons
  with_reducible apply wx_tup2 false (c₁ := .fr (.lst (said.map bl))) (c₂ := .fr (.lst (said.map bl)))
  · show EvItems _ _ _ _ _ _ ([D.lst (said.map bl), D.lst (said.map bl)].map Part.fr)
    apply eit_frozen (d := .tup [.lst (said.map bl), .lst (said.map bl)])
    · apply Ev.v
      have hA := fn_answers (k := k + 2) page (signs.map escF) ((rowsF page signs).map escF) hp (by omega) (by rw [List.length_map]; omega) (by rw [List.length_map]; omega) hml hwl
      rw [hsaid, hdue] at hA
      apply ev_def (k := k + 4) 12 (by decide +kernel) (by decide +kernel) (by decide +kernel) ?_ hA ?_ (by decide +kernel)
      · walk_at "mevs"
      · walk_at "mrfl"
    · exact .inr rfl
    · show 2 < 2 ^ 60; omega
  · exact ⟨⟨by decide +kernel, rfl⟩, ⟨by decide +kernel, rfl⟩, trivial⟩
  rotate_left
  · intro env he; rfl
  · intro env he hk
    obtain ⟨⟩ := env
    cases he
    kernel_rfl
  show WsX P0 (k + 4) _ _ _ [("due", .lst (said.map bl)), ("said", .lst (said.map bl)), ("marks", .lst ((signs.map escF).map D.str)), ("writings", .lst (((rowsF page signs).map escF).map D.str)), ("rows", .lst ((rowsF page signs).map D.str)), ("stays", .lst ((staysF page).map il)), ("base", .int base), ("signs", .lst (signs.map D.str)), ("page", .lst (page.map D.int)), ("cells", .lst (cells.map D.int)), ("script", .arg vs)] [] _
  apply wsx_cons
  apply wx_forF (F := fun i => [("said", .lst (said.map bl)), ("due", .lst (said.map bl)), ("base", .int base), ("page", .lst (page.map D.int)), ("cells", .lst (cells.map D.int))]) (G := fun i => [])
  · apply Ev.v
    walk_at "mev"
  · exact items_rng
  · simp only [List.length_map, List.length_range]; omega
  · decide +kernel
  · intro q hq
    simp only [List.mem_cons, List.not_mem_nil, or_false] at hq
    rcases hq with rfl | rfl | rfl | rfl | rfl <;> rfl
  · rfl
  · intro i; rfl
  · intro x e he
    obtain ⟨hx, rfl⟩ := range_at he
    have hx : x < 20 := by simpa [said20] using hx
    apply ws_cons
    apply wx_if (c := false)
    · with_reducible apply Et.of_eq
      · with_reducible apply et_cmp
        · with_reducible apply EvN.ev
          apply ev_zipSame (bs := said.getD x [])
          · with_reducible apply Ev.of_eq
            · walk_at "mev"
            · rfl
          · with_reducible apply Ev.of_eq
            · walk_at "mev"
            · rfl
          · have hm : said.getD x [] ∈ said := by rw [List.getD_eq_getElem?_getD, List.getElem?_eq_getElem (by omega)]; exact List.getElem_mem _
            exact Nat.le_trans (hrow _ hm) (by omega)
          · decide +kernel
          · decide +kernel
          · intro b
            with_reducible apply Et.of_eq
            · walk_at "met"
            · simp
          · walk_at "mrfl"
          · walk_at "mrfl"
          · walk_at "mrfl"
          · intros; rfl
        · with_reducible apply EvN.ev
          with_reducible apply ev_list
          · exact evs_nil
          · decide +kernel
        · exact l_ne rfl
        · with_unfolding_all rfl
      · rfl
    · intro h; cases h
    intro _
    with_reducible apply ws_nil
    with_reducible apply andThen_nxt
    with_reducible apply ws_nil
    refine ⟨fun q hq => ?_, rfl⟩
    simp only [List.mem_cons, List.not_mem_nil, or_false] at hq
    rcases hq with rfl | rfl | rfl | rfl | rfl <;> rfl
  · intro σ' hσ
    with_reducible apply andThen_nxt
    refine wsx_weak ?_ (lookup_of_all hσ)
    have hfp := fn_painted (k := k) cells said base cells6 said20 hkey hrow hw5 paint
    rw [hmade, htold] at hfp
    apply wsx_tupX (fdN_mem (n := 13) (by decide +kernel)) (by decide +kernel) (by decide +kernel) ?_ hfp ?_ (by decide +kernel) ⟨⟨by decide +kernel, rfl⟩, ⟨by decide +kernel, rfl⟩, trivial⟩ ?_ ?_ ?_
    · walk_at "mevs"
    · walk_at "mrfl"
    rotate_left
    · intro env he; rfl
    · intro env he
      obtain ⟨⟩ := env
      cases he
      kernel_rfl
    apply ws_cons
    with_reducible apply wx_assignU (d := .lst ((sharesF cells).map D.int))
    · apply EvU.v
      apply evu_compM0 (mk' := D.int) (mk := fun i : Nat => D.int (i : Int)) (shareF cells)
      · walk_at "mev"
      · exact items_rng
      · decide +kernel
      · decide +kernel
      · intro x hx
        have hx5 : x < 5 := List.mem_range.mp hx
        with_reducible apply Ev.of_eq
        · walk_at "mev"
        · rfl
    · decide +kernel
    · rfl
    rotate_left
    · intro env he hk
      obtain ⟨⟩ := env
      cases he
      kernel_rfl
    with_reducible apply andThen_nxt
    have sh5 : (sharesF cells).length = 5 := by unfold sharesF; rw [List.length_map, List.length_range]
    have hfr := fn_rooms (k := k + 3) page (sharesF cells) hr hins sh5 (by omega)
    rw [hrooms] at hfr
    apply ws_cons
    with_reducible apply wx_tup2 false (c₁ := .fr (.lst (rooms.map D.int))) (c₂ := .fr (.int most))
    · show EvItems _ _ _ _ _ _ ([D.lst (rooms.map D.int), D.int most].map Part.fr)
      apply eit_frozen (d := .tup [.lst (rooms.map D.int), .int most])
      · apply Ev.v
        apply ev_def (k := k + 4) 10 (by decide +kernel) (by decide +kernel) (by decide +kernel) ?_ hfr ?_ (by decide +kernel)
        · walk_at "mevs"
        · walk_at "mrfl"
      · exact .inr rfl
      · show 2 < 2 ^ 60; omega
    · exact ⟨⟨by decide +kernel, rfl⟩, ⟨by decide +kernel, rfl⟩, trivial⟩
    rotate_left
    · intro env he; rfl
    · intro env he hk
      obtain ⟨⟩ := env
      cases he
      kernel_rfl
    show Ws P0 (k + 4) _ _ [("most", .int most), ("rooms", .lst (rooms.map D.int)), ("shares", .lst ((sharesF cells).map D.int)), ("told", .dct (ksR 5) (told.map tupF)), ("made", .dct (ksR 5) (made.map tupF)), ("said", .lst (said.map bl)), ("due", .lst (said.map bl)), ("base", .int base), ("page", .lst (page.map D.int)), ("cells", .lst (cells.map D.int))] [] _
    have ml5 : made.length = 5 := by rw [← hmade]; exact (paint_len said cells base 5).1
    have tl5 : told.length = 5 := by rw [← htold]; exact (paint_len said cells base 5).2
    apply ws_cons
    apply wx_forF (F := fun i => [("most", .int most), ("rooms", .lst (rooms.map D.int)), ("shares", .lst ((sharesF cells).map D.int)), ("told", .dct (ksR 5) (told.map tupF)), ("made", .dct (ksR 5) (made.map tupF)), ("base", .int base), ("cells", .lst (cells.map D.int))]) (G := fun i => [])
    · apply Ev.v
      walk_at "mev"
    · exact items_rng
    · decide +kernel
    · decide +kernel
    · intro q hq
      simp only [List.mem_cons, List.not_mem_nil, or_false] at hq
      rcases hq with rfl | rfl | rfl | rfl | rfl | rfl | rfl <;> rfl
    · rfl
    · intro i; rfl
    · intro x e he
      obtain ⟨hx, rfl⟩ := range_at he
      have hx : x < 5 := hx
      apply ws_cons
      with_reducible apply wx_tup2 true (c₁ := .fr (.int (lightF cells x))) (c₂ := .fr (.int (mF base rooms x)))
      · with_reducible apply eit_tuple
        · with_reducible apply evps_fr
          · with_reducible apply Ev.of_eq
            · walk_at "mev"
            · rfl
          · with_reducible apply evps_fr
            · with_reducible apply Ev.of_eq
              · walk_at "mev"
              · rfl
            · exact evps_nil
            · walk_at "mrfl"
          · walk_at "mrfl"
        · show 2 ≤ 2 ^ 24; omega
      · exact ⟨⟨by decide +kernel, rfl⟩, ⟨by decide +kernel, rfl⟩, trivial⟩
      rotate_left
      · intro env he; rfl
      · intro env he hk
        obtain ⟨⟩ := env
        cases he
        kernel_rfl
      show Ws P0 (k + 4) _ _ [("light", .int (lightF cells x)), ("m", .int (mF base rooms x)), ("x", .int x), ("most", .int most), ("rooms", .lst (rooms.map D.int)), ("shares", .lst ((sharesF cells).map D.int)), ("told", .dct (ksR 5) (told.map tupF)), ("made", .dct (ksR 5) (made.map tupF)), ("base", .int base), ("cells", .lst (cells.map D.int))] [] _
      have bm : 0 ≤ mF base rooms x ∧ mF base rooms x < 16 := fmod_range (by omega)
      have bl' : 0 ≤ ((cells.getD x 0).fdiv 64).fmod 7 ∧ ((cells.getD x 0).fdiv 64).fmod 7 < 7 := fmod_range (by omega)
      have bs : 0 ≤ shareF cells x ∧ shareF cells x < 5 := fmod_range (by omega)
      have hnear := near x hx
      have hpb := partB x hx
      obtain ⟨hs1, hs2⟩ := same x hx
      have iM := infM x hx
      have iL := infL x hx
      have iS := infS x hx
      apply ws_cons
      with_reducible apply wx_assign (d := .lst ((partsF (mF base rooms x) (lightF cells x) (shareF cells x)).map D.int))
      · have hfq := fn_parts (k := k + 3) (mF base rooms x) (lightF cells x) (shareF cells x) (by omega) (by unfold lightF; omega) (by omega)
        apply ev_def (k := k + 4) 11 (by decide +kernel) (by decide +kernel) (by decide +kernel) ?_ hfq ?_ (by decide +kernel)
        · with_reducible apply evs_eq
          · walk_at "mevs"
          · have : (sharesF cells).getD (x : Int).toNat default = shareF cells x := by
              unfold sharesF
              rw [List.getD_eq_getElem?_getD, Int.toNat_natCast, List.getElem?_map, List.getElem?_range hx]; rfl
            rw [this]
        · walk_at "mrfl"
      · decide +kernel
      · rfl
      rotate_left
      · intro env he; rfl
      with_reducible apply andThen_nxt
      have hsh : (sharesF cells).getD (x : Int).toNat default = shareF cells x := by
        unfold sharesF
        rw [List.getD_eq_getElem?_getD, Int.toNat_natCast, List.getElem?_map, List.getElem?_range hx]; rfl
      have dat : ∀ l : List (List UInt64), l.length = 5 → dctAt (ksR 5) (l.map tupF) (x : Int) = some (tupF (l.getD x [])) := fun l hl => by
        rw [dct_at hx (by rw [List.length_map]; omega), List.getElem?_map, List.getD_eq_getElem?_getD, List.getElem?_eq_getElem (by omega)]; rfl
      have mm : made.getD x [] ∈ made := by rw [List.getD_eq_getElem?_getD, List.getElem?_eq_getElem (by omega)]; exact List.getElem_mem _
      have m3 := made3 _ mm
      generalize hMx : made.getD x [] = mx at *
      have p3 : (partsF (mF base rooms x) (lightF cells x) (shareF cells x)).length = 3 := rfl
      generalize hPx : partsF (mF base rooms x) (lightF cells x) (shareF cells x) = px at *
      apply ws_cons
      apply wx_if (c := false)
      · with_reducible apply Et.of_eq
        · with_reducible apply et_cmp (a := .lst (([] : List Int).map D.int)) (b := .lst (([] : List Int).map D.int))
          · with_reducible apply Ev.of_eq
            · with_reducible apply EvN.ev
              apply ev_filt (mk := fun i : Nat => D.int (i : Int)) (xs := List.range 3) (farF mx px)
              · walk_at "mev"
              · exact items_rng
              · decide +kernel
              · decide +kernel
              · intro i hi
                have hi3 : i < 3 := List.mem_range.mp hi
                have hb := hpb i hi3
                with_reducible apply ets_one
                with_reducible apply Et.of_eq
                · with_reducible apply et_cmp
                  · with_reducible apply ev_binop
                    · with_reducible apply ev_abs
                      · decide +kernel
                      · with_reducible apply evs_cons
                        · with_reducible apply ev_binop
                          · with_reducible apply ev_binop
                            · with_reducible apply ev_sub
                              · with_reducible apply ev_sub
                                · walk_at "mev"
                                · walk_at "mev"
                                · rfl
                                · apply g_dct
                                  rw [dat made ml5, hMx]
                                · walk_at "mrfl"
                              · walk_at "mev"
                              · rfl
                              · apply g_tupM (mk := D.flt) (l := mx) <;> first | omega | (rw [m3]; omega) | decide +kernel
                              · walk_at "mrfl"
                            · walk_at "mev"
                            · walk_at "mop"
                          · walk_at "mev"
                          · apply fi_sub
                            exact hb
                        · exact evs_nil
                        · walk_at "mrfl"
                      · walk_at "mcall"
                      · walk_at "mrfl"
                      · walk_at "mrfl"
                    · walk_at "mev"
                    · walk_at "mop"
                  · walk_at "mev"
                  · walk_at "mop"
                  · with_unfolding_all rfl
                · rfl
              · intro i hi _
                walk_at "mev"
              · intros; rfl
            · have : (List.range 3).filter (farF mx px) = [] := by
                rw [List.filter_eq_nil_iff]
                intro i hi
                rw [hnear i (List.mem_range.mp hi)]
                exact Bool.false_ne_true
              rw [this]; rfl
          · with_reducible apply EvN.ev
            with_reducible apply ev_list
            · exact evs_nil
            · decide +kernel
          · exact li_ne
        · rfl
      · intro h; cases h
      intro _
      with_reducible apply ws_nil
      with_reducible apply andThen_nxt
      have tm : told.getD x [] ∈ told := by rw [List.getD_eq_getElem?_getD, List.getElem?_eq_getElem (by omega)]; exact List.getElem_mem _
      apply ws_cons
      apply wx_if (c := false)
      · with_reducible apply Et.of_eq
        · with_reducible apply et_cmp (a := .tup ((told.getD x []).map D.flt)) (b := .tup ((dueT base cells rooms x).map D.flt))
          · with_reducible apply ev_sub
            · walk_at "mev"
            · walk_at "mev"
            · rfl
            · apply g_dct
              exact dat told tl5
            · walk_at "mrfl"
          · with_reducible apply EvN.ev
            show EvN _ _ _ _ _ (.tup [.flt (if 0 < shareF cells x then Float64.div (Float64.ofInt (mF base rooms x)) 4625196817309499392 else 0), .flt (Float64.div (Float64.ofInt (lightF cells x)) 4620693217682128896), .flt (Float64.div (Float64.ofInt (shareF cells x)) 4616189618054758400)])
            with_reducible apply ev_tuple
            · with_reducible apply evs_cons
              · apply ev_ifF (c := decide (0 < shareF cells x))
                · with_reducible apply Et.of_eq
                  · walk_at "met"
                  · rw [hsh]
                · intro _
                  walk_at "mev"
                · intro _
                  walk_at "mev"
                · by_cases h : 0 < shareF cells x <;> simp [h]
              · with_reducible apply evs_cons
                · walk_at "mev"
                · with_reducible apply evs_cons
                  · with_reducible apply ev_binop (a := .int (shareF cells x))
                    · with_reducible apply Ev.of_eq
                      · walk_at "mev"
                      · rw [hsh]
                    · walk_at "mev"
                    · walk_at "mop"
                  · exact evs_nil
                  · walk_at "mrfl"
                · walk_at "mrfl"
              · walk_at "mrfl"
            · show 3 ≤ 2 ^ 24; omega
          · exact t_ne hs1
        · rw [hs2]; rfl
      · intro h; cases h
      intro _
      with_reducible apply ws_nil
      with_reducible apply andThen_nxt
      with_reducible apply ws_nil
      refine ⟨fun q hq => ?_, rfl⟩
      simp only [List.mem_cons, List.not_mem_nil, or_false] at hq
      rcases hq with rfl | rfl | rfl | rfl | rfl | rfl | rfl <;> rfl
    · intro σ' hσ
      with_reducible apply andThen_nxt
      refine ws_weak ?_ (lookup_of_all hσ)
      have dat : ∀ x : Nat, x < 5 → ∀ l : List (List UInt64), l.length = 5 → dctAt (ksR 5) (l.map tupF) (x : Int) = some (tupF (l.getD x [])) := fun x hx l hl => by
        rw [dct_at hx (by rw [List.length_map]; omega), List.getElem?_map, List.getD_eq_getElem?_getD, List.getElem?_eq_getElem (by omega)]; rfl
      apply ws_cons
      apply wx_return (d := .bool true)
      · with_reducible apply Ev.of_eq
        · with_reducible apply ev_cmp
          · apply ev_lenset (ns := huesF told)
            · with_reducible apply EvN.ev
              apply ev_compM (mk' := D.int) (mk := fun i : Nat => D.int (i : Int)) (xs := List.range 5) (fun x : Nat => Float64.cmp ((told.getD x []).getD 2 0) 0 == some .gt) (fun x : Nat => truncI (Float64.mul ((told.getD x []).getD 0 0) 4625196817309499392))
              · walk_at "mev"
              · exact items_rng
              · decide +kernel
              · decide +kernel
              · intro x hx
                have hx5 : x < 5 := List.mem_range.mp hx
                have tm : told.getD x [] ∈ told := by rw [List.getD_eq_getElem?_getD, List.getElem?_eq_getElem (by omega)]; exact List.getElem_mem _
                have t3 := told3 _ tm
                with_reducible apply ets_one
                with_reducible apply Et.of_eq
                · with_reducible apply et_cmp
                  · with_reducible apply ev_sub
                    · with_reducible apply ev_sub
                      · walk_at "mev"
                      · walk_at "mev"
                      · rfl
                      · apply g_dct
                        rw [dat x hx5 told tl5]
                      · walk_at "mrfl"
                    · walk_at "mev"
                    · rfl
                    · apply g_tupM (mk := D.flt) (l := told.getD x []) <;> first | omega | (rw [t3]; decide +kernel) | decide +kernel
                    · walk_at "mrfl"
                  · walk_at "mev"
                  · walk_at "mop"
                  · with_unfolding_all rfl
                · rfl
              · intro x hx _
                have hx5 : x < 5 := List.mem_range.mp hx
                have tm : told.getD x [] ∈ told := by rw [List.getD_eq_getElem?_getD, List.getElem?_eq_getElem (by omega)]; exact List.getElem_mem _
                have t3 := told3 _ tm
                have tF := toldF _ tm
                with_reducible apply ev_intC
                · decide +kernel
                · with_reducible apply evs_cons
                  · with_reducible apply ev_binop
                    · with_reducible apply ev_sub
                      · with_reducible apply ev_sub
                        · walk_at "mev"
                        · walk_at "mev"
                        · rfl
                        · apply g_dct
                          rw [dat x hx5 told tl5]
                        · walk_at "mrfl"
                      · walk_at "mev"
                      · rfl
                      · apply g_tupM (mk := D.flt) (l := told.getD x []) <;> first | omega | (rw [t3]; decide +kernel) | decide +kernel
                      · walk_at "mrfl"
                    · walk_at "mev"
                    · walk_at "mop"
                  · exact evs_nil
                  · walk_at "mrfl"
                · apply c_int
                  exact tF
                · walk_at "mrfl"
                · walk_at "mrfl"
            · decide +kernel
            · decide +kernel
            · unfold huesF
              rw [List.length_map]
              have := List.length_filter_le (fun x : Nat => Float64.cmp ((told.getD x []).getD 2 0) 0 == some .gt) (List.range 5)
              rw [List.length_range] at this
              exact Nat.lt_of_le_of_lt (Nat.succ_le_succ this) (by decide +kernel)
          · walk_at "mev"
          · with_reducible exact o_eq
          · with_unfolding_all rfl
        · rw [count]; simp
      · rfl
end
end Mine
end
section
open PySem PySem.Calls PyProof.Rows PySem.Builtin.Str PySem.StrLaws
set_option maxRecDepth 100000
set_option linter.unusedVariables false
namespace Mine
noncomputable def ellLoopG (g : List Nat) (e : Nat) : List (List Nat) → Nat → Bool
  | [], _ => true
  | w :: ws, s => match findG g w s e with
    | none => false
    | some j => ellLoopG g e ws (j + w.length)
noncomputable def ell3G (g : List Nat) (ws : List (List Nat)) (s e : Nat) : Bool := if e < s then false else ellLoopG g e ws s
noncomputable def ell2G (g : List Nat) (ws : List (List Nat)) (s : Nat) : Bool :=
  if !(ws.getD (ws.length - 1) []).isEmpty then (if (ws.getD (ws.length - 1) []).isSuffixOf g then ell3G g (ws.eraseIdx (ws.length - 1)) s (g.length - (ws.getD (ws.length - 1) []).length) else false)
  else ell3G g ws s g.length
noncomputable def ell1G (g : List Nat) (ws : List (List Nat)) : Bool :=
  if !(ws.getD 0 []).isEmpty then (if (ws.getD 0 []).isPrefixOf g then ell2G g (ws.eraseIdx 0) (ws.getD 0 []).length else false) else ell2G g ws 0
section
variable {c : Nat → List Nat}
theorem Cd.find (C : Cd c) {x y : Str} {g w : List Nat} {s e : Nat} (hg : Lo g) (hw : Lo w) (hx : tl x = g.flatMap c) (hy : tl y = w.flatMap c) (hs : s ≤ e) (he : e ≤ g.length) :
    find4 x y (posC c g s : Int) (posC c g e : Int) = orNeg ((findG g w s e).map (posC c g)) := by
  have hlen : x.length = posC c g g.length := by rw [posC_len, tl_len, hx]
  have l1 : posC c g e ≤ x.length := by rw [hlen]; exact pos_le he
  have l0 : posC c g s ≤ posC c g e := pos_le hs
  have hA : ∀ i, At x y (posC c g e) i ↔ i + (w.flatMap c).length ≤ posC c g e ∧ ((g.flatMap c).drop i).take (w.flatMap c).length = w.flatMap c := fun i => by rw [at_tl, hx, hy]
  refine find4_of (Nat.le_trans l0 l1) l1 ?_
  have hf := findG_first g w s e
  cases w with
  | nil =>
    have e1 : findG g [] s e = some s := by
      refine FirstAt.unique hf ⟨Nat.le_refl _, ⟨by simpa using hs, List.nil_prefix⟩, fun k k1 k2 => by omega⟩
    rw [e1]
    refine ⟨Nat.le_refl _, (hA _).mpr ⟨by simpa using l0, by simp⟩, fun k k1 k2 => by omega⟩
  | cons a w =>
    have key : ∀ i, At x y (posC c g e) i → ∃ j, j ≤ g.length ∧ i = posC c g j ∧ j + (a :: w).length ≤ e ∧ (a :: w) <+: g.drop j := fun i h => by
      obtain ⟨h1, h2⟩ := (hA i).mp h
      obtain ⟨j, hj, rfl, hp⟩ := (C.at_iff hw hg (by simp) i).mp h2
      refine ⟨j, Nat.le_of_lt hj, rfl, ?_, hp⟩
      rw [← pos_add (Nat.le_of_lt hj) hp] at h1
      have hl := hp.length_le
      rw [List.length_drop] at hl
      rcases Nat.lt_or_ge e (j + (a :: w).length) with q | q
      · exact absurd (C.pos_lt hg q (by omega)) (Nat.not_lt.mpr h1)
      · exact q
    have back : ∀ j, j ≤ g.length → j + (a :: w).length ≤ e → (a :: w) <+: g.drop j → At x y (posC c g e) (posC c g j) := fun j hj h1 h2 => by
      refine (hA _).mpr ⟨?_, ?_⟩
      · rw [← pos_add hj h2]; exact pos_le h1
      · have hjl : j < g.length := by
          have hl := h2.length_le
          rw [List.length_drop, List.length_cons] at hl; omega
        exact (C.at_iff hw hg (by simp) _).mpr ⟨j, hjl, rfl, h2⟩
    cases hq : findG g (a :: w) s e with
    | none =>
      rw [hq] at hf
      intro i hi hAt
      obtain ⟨j, hj, rfl, h1, h2⟩ := key i hAt
      have hsj : s ≤ j := by
        rcases Nat.lt_or_ge j s with q | q
        · exact absurd (C.pos_lt hg q (by omega)) (Nat.not_lt.mpr hi)
        · exact q
      exact hf j hsj ⟨h1, h2⟩
    | some j =>
      rw [hq] at hf
      obtain ⟨f1, ⟨f2, f3⟩, f4⟩ := hf
      have hj : j ≤ g.length := by omega
      refine ⟨pos_le f1, back j hj f2 f3, fun i i1 i2 hAt => ?_⟩
      obtain ⟨k, hk, rfl, h1, h2⟩ := key i hAt
      have hkj : k < j := C.pos_inj hg hk hj i2
      have hsk : s ≤ k := by
        rcases Nat.lt_or_ge k s with q | q
        · exact absurd (C.pos_lt hg q (by omega)) (Nat.not_lt.mpr i1)
        · exact q
      exact f4 k hsk hkj ⟨h1, h2⟩
theorem Cd.loop (C : Cd c) {x : Str} {g : List Nat} {e : Nat} (hg : Lo g) (hx : tl x = g.flatMap c) (he : e ≤ g.length) : ∀ (us : List Str) (ws : List (List Nat)) (s : Nat), us.map tl = ws.map (fun w => w.flatMap c) → (∀ w ∈ ws, Lo w) → s ≤ e →
    ellLoop x (posC c g e : Int) us (posC c g s : Int) = ellLoopG g e ws s
  | [], [], s, _, _, _ => rfl
  | [], w :: ws, s, h, _, _ => by simp at h
  | u :: us, [], s, h, _, _ => by simp at h
  | u :: us, w :: ws, s, h, hl, hs => by
    simp only [List.map_cons, List.cons.injEq] at h
    have hw := hl w (.head _)
    rw [ellLoop, ellLoopG, C.find hg hw hx h.1 hs he]
    cases hq : findG g w s e with
    | none => rfl
    | some j =>
      have hf := findG_first g w s e
      rw [hq] at hf
      obtain ⟨f1, ⟨f2, f3⟩, f4⟩ := hf
      show (if ((posC c g j : Nat) : Int) < 0 then false else ellLoop x _ us ((posC c g j : Nat) + (u.length : Int))) = _
      rw [if_neg (by omega)]
      have e1 : ((posC c g j : Nat) : Int) + (u.length : Int) = ((posC c g (j + w.length) : Nat) : Int) := by
        rw [pos_add (by omega) f3, tl_len u, h.1]; rfl
      rw [e1]
      exact C.loop hg hx he us ws (j + w.length) h.2 (fun v hv => hl v (.tail _ hv)) f2
theorem Cd.nil_iff (C : Cd c) {w : List Nat} (hw : Lo w) : (w.flatMap c).length = 0 ↔ w = [] := by
  constructor
  · intro h
    cases w with
    | nil => rfl
    | cons a w =>
      have := C.ne hw.cons.1
      rw [List.flatMap_cons, List.length_append] at h
      omega
  · rintro rfl; rfl
theorem getD_map_tl {us : List Str} {ws : List (List Nat)} (h : us.map tl = ws.map (fun w => w.flatMap c)) (i : Nat) : tl (us.getD i "") = (ws.getD i []).flatMap c := by
  have e : (us.map tl)[i]? = (ws.map (fun w => w.flatMap c))[i]? := by rw [h]
  rw [List.getElem?_map, List.getElem?_map] at e
  rw [List.getD_eq_getElem?_getD, List.getD_eq_getElem?_getD]
  cases h1 : us[i]? with
  | none =>
    rw [h1] at e
    cases h2 : ws[i]? with
    | none => exact (show tl ("" : Str) = [] by decide +kernel)
    | some w => rw [h2] at e; cases e
  | some u =>
    rw [h1] at e
    cases h2 : ws[i]? with
    | none => rw [h2] at e; cases e
    | some w => rw [h2] at e; exact Option.some.inj e
theorem lo_getD {ws : List (List Nat)} (h : ∀ w ∈ ws, Lo w) (i : Nat) : Lo (ws.getD i []) := by
  rw [List.getD_eq_getElem?_getD]
  cases h2 : ws[i]? with
  | none => intro x hx; cases hx
  | some w => exact h w (List.mem_of_getElem? h2)
theorem erase_map_tl {us : List Str} {ws : List (List Nat)} (h : us.map tl = ws.map (fun w => w.flatMap c)) (i : Nat) : (us.eraseIdx i).map tl = (ws.eraseIdx i).map (fun w => w.flatMap c) := by
  rw [← erase_map, ← erase_map, h]
theorem Cd.m3 (C : Cd c) {x : Str} {g : List Nat} {us : List Str} {ws : List (List Nat)} {s e : Nat} (hg : Lo g) (hx : tl x = g.flatMap c) (h : us.map tl = ws.map (fun w => w.flatMap c)) (hl : ∀ w ∈ ws, Lo w) (hs : s ≤ g.length) (he : e ≤ g.length) :
    ell3 x us (posC c g s : Int) (posC c g e : Int) = ell3G g ws s e := by
  unfold ell3 ell3G
  by_cases q : e < s
  · have := C.pos_lt hg q hs
    rw [if_pos q, if_pos (by omega)]
  · have := pos_le (c := c) (g := g) (Nat.not_lt.mp q)
    rw [if_neg q, if_neg (by omega)]
    exact C.loop hg hx he us ws s h hl (Nat.not_lt.mp q)
theorem Cd.starts (C : Cd c) {x y : Str} {g w : List Nat} (hg : Lo g) (hw : Lo w) (hne : w ≠ []) (hx : tl x = g.flatMap c) (hy : tl y = w.flatMap c) : Txt.startswith x y = w.isPrefixOf g := by
  rw [Bool.eq_iff_iff, List.isPrefixOf_iff_prefix]
  unfold Txt.startswith
  rw [Bool.and_eq_true, decide_eq_true_iff, subAt_eq, beq_iff_eq, tl_len y]
  show (_ ∧ ((tl x).drop 0).take (tl y).length = tl y) ↔ _
  rw [hx, hy]
  constructor
  · rintro ⟨_, h2⟩
    refine C.pre_of _ _ hw hg ?_
    rw [← h2]; exact List.take_prefix _ _
  · rintro ⟨t, rfl⟩
    rw [tl_len, hx, List.flatMap_append]
    refine ⟨by rw [List.length_append]; omega, ?_⟩
    rw [List.drop_zero, List.take_left]
theorem Cd.ends (C : Cd c) {x y : Str} {g w : List Nat} (hg : Lo g) (hw : Lo w) (hne : w ≠ []) (hx : tl x = g.flatMap c) (hy : tl y = w.flatMap c) : Txt.endswith x y = w.isSuffixOf g := by
  rw [Bool.eq_iff_iff, List.isSuffixOf_iff_suffix]
  unfold Txt.endswith
  rw [Bool.and_eq_true, decide_eq_true_iff, subAt_eq, beq_iff_eq, tl_len y, tl_len x]
  show (_ ∧ ((tl x).drop ((tl x).length - (tl y).length)).take (tl y).length = tl y) ↔ _
  rw [hx, hy]
  constructor
  · rintro ⟨h1, h2⟩
    obtain ⟨j, hj, e, t, ht⟩ := (C.at_iff hw hg hne _).mp h2
    have hlen : posC c g j + ((g.drop j).flatMap c).length = (g.flatMap c).length := by
      rw [flat_take_drop g j, List.length_append]; rfl
    rw [← ht, List.flatMap_append, List.length_append] at hlen
    have ht0 : (t.flatMap c).length = 0 := by omega
    have hlt : Lo t := fun a ha => hg a (List.mem_of_mem_drop (i := j) (by rw [← ht]; exact List.mem_append_right _ ha))
    have : t = [] := (C.nil_iff hlt).mp ht0
    subst this
    rw [List.append_nil] at ht
    rw [ht]; exact List.drop_suffix _ _
  · rintro ⟨t, rfl⟩
    rw [List.flatMap_append, List.length_append]
    refine ⟨by omega, ?_⟩
    rw [Nat.add_sub_cancel, List.drop_left, List.take_length]
theorem Cd.m2 (C : Cd c) {x : Str} {g : List Nat} {us : List Str} {ws : List (List Nat)} {s : Nat} (hg : Lo g) (hx : tl x = g.flatMap c) (h : us.map tl = ws.map (fun w => w.flatMap c)) (hl : ∀ w ∈ ws, Lo w) (hs : s ≤ g.length) :
    ell2 x us (posC c g s : Int) = ell2G g ws s := by
  have hlen : us.length = ws.length := by have := congrArg List.length h; simpa using this
  have hu := getD_map_tl h (ws.length - 1)
  have hw := lo_getD hl (ws.length - 1)
  have hxl : (x.length : Int) = ((posC c g g.length : Nat) : Int) := by rw [posC_len, tl_len, hx]
  unfold ell2 ell2G
  rw [hlen]
  generalize us.getD (ws.length - 1) "" = u at *
  have he := erase_map_tl h (ws.length - 1)
  have hel : ∀ w ∈ ws.eraseIdx (ws.length - 1), Lo w := fun w hw => hl w (List.mem_of_mem_eraseIdx hw)
  generalize ws.getD (ws.length - 1) [] = w at *
  generalize ws.eraseIdx (ws.length - 1) = ws' at *
  by_cases q : w = []
  · subst q
    have e0 : u.length = 0 := by rw [tl_len, hu]; rfl
    rw [e0]
    show ell3 x us _ (x.length : Int) = ell3G g ws s g.length
    rw [hxl]
    exact C.m3 hg hx h hl hs (Nat.le_refl _)
  · have e0 : u.length ≠ 0 := by rw [tl_len, hu]; intro z; exact q ((C.nil_iff hw).mp z)
    have c1 : (!(u.length == 0)) = true := by simpa using e0
    have c2 : (!w.isEmpty) = true := by cases w with | nil => exact absurd rfl q | cons a w => rfl
    rw [c1, c2, if_pos rfl, if_pos rfl, C.ends hg hw q hx hu]
    cases hsf : w.isSuffixOf g with
    | false => rfl
    | true =>
      rw [if_pos rfl, if_pos rfl]
      obtain ⟨t, ht⟩ := List.isSuffixOf_iff_suffix.mp hsf
      have hgl : g.length = t.length + w.length := by rw [← ht, List.length_append]
      have e1 : (x.length : Int) - (u.length : Int) = ((posC c g (g.length - w.length) : Nat) : Int) := by
        rw [tl_len x, tl_len u, hx, hu, hgl, Nat.add_sub_cancel]
        unfold posC
        rw [← ht, List.take_left, List.flatMap_append, List.length_append]
        omega
      rw [e1]
      exact C.m3 hg hx he hel hs (by omega)
theorem Cd.m1 (C : Cd c) {x : Str} {g : List Nat} {us : List Str} {ws : List (List Nat)} (hg : Lo g) (hx : tl x = g.flatMap c) (h : us.map tl = ws.map (fun w => w.flatMap c)) (hl : ∀ w ∈ ws, Lo w) :
    ell1 x us = ell1G g ws := by
  have hu := getD_map_tl h 0
  have hw := lo_getD hl 0
  have he := erase_map_tl h 0
  have hel : ∀ w ∈ ws.eraseIdx 0, Lo w := fun w hw => hl w (List.mem_of_mem_eraseIdx hw)
  unfold ell1 ell1G
  generalize us.getD 0 "" = u at *
  generalize ws.getD 0 [] = w at *
  by_cases q : w = []
  · subst q
    have e0 : u.length = 0 := by rw [tl_len, hu]; rfl
    rw [e0]
    show ell2 x us 0 = ell2G g ws 0
    have := C.m2 (s := 0) hg hx h hl (Nat.zero_le _)
    rw [posC_zero] at this
    exact this
  · have e0 : u.length ≠ 0 := by rw [tl_len, hu]; intro z; exact q ((C.nil_iff hw).mp z)
    have c1 : (!(u.length == 0)) = true := by simpa using e0
    have c2 : (!w.isEmpty) = true := by cases w with | nil => exact absurd rfl q | cons a w => rfl
    rw [c1, c2, if_pos rfl, if_pos rfl, C.starts hg hw q hx hu]
    cases hsf : w.isPrefixOf g with
    | false => rfl
    | true =>
      rw [if_pos rfl, if_pos rfl]
      have hp := List.isPrefixOf_iff_prefix.mp hsf
      have e1 : (u.length : Int) = ((posC c g w.length : Nat) : Int) := by
        have := pos_add (c := c) (g := g) (w := w) (j := 0) (Nat.zero_le _) (by simpa using hp)
        rw [Nat.zero_add, posC_zero, Nat.zero_add] at this
        rw [this, tl_len, hu]
      rw [e1]
      exact C.m2 hg hx he hel hp.length_le
/-- the match of a pattern of several parts -/
theorem Cd.mF (C : Cd c) {want x : Str} {g : List Nat} {ws : List (List Nat)} (hg : Lo g) (hx : tl x = g.flatMap c) (hl : ∀ w ∈ ws, Lo w) (h2 : 2 ≤ ws.length) (hw : tl want = joinD (ws.map fun w => w.flatMap c)) : ellF want x = ell1G g ws := by
  have hd : ∀ p ∈ ws.map (fun w => w.flatMap c), 46 ∉ p := fun p hp => by
    obtain ⟨w, hw, rfl⟩ := List.mem_map.mp hp
    intro q
    obtain ⟨a, ha, h⟩ := List.mem_flatMap.mp q
    exact C.dot a (hl w hw a ha) h
  obtain ⟨h1, h2⟩ := split_dots (by rw [List.length_map]; exact h2) hd hw
  unfold ellF
  rw [h1]
  show ell1 x (Txt.split want dots) = _
  exact C.m1 hg hx h2 hl
theorem Cd.enc_inj (C : Cd c) {u v : List Nat} (hu : Lo u) (hv : Lo v) (h : u.flatMap c = v.flatMap c) : u = v := by
  have p1 := C.pre_of u v hu hv (by rw [h]; exact List.prefix_refl _)
  have p2 := C.pre_of v u hv hu (by rw [h]; exact List.prefix_refl _)
  exact p1.eq_of_length (Nat.le_antisymm p1.length_le p2.length_le)
/-- the match of a pattern without dots -/
theorem Cd.mP (C : Cd c) {want x : Str} {g w : List Nat} (hg : Lo g) (hw : Lo w) (hx : tl x = g.flatMap c) (hy : tl want = w.flatMap c) : ellF want x = decide (w = g) := by
  have hc : Txt.contains want dots = false := by
    cases h : Txt.contains want dots with
    | false => rfl
    | true =>
      obtain ⟨i, hi⟩ := (contains_iff want).mp h
      have hm := List.mem_of_getElem? (at_get hi)
      rw [hy] at hm
      obtain ⟨a, ha, h⟩ := List.mem_flatMap.mp hm
      exact absurd h (C.dot a (hw a ha))
  unfold ellF
  rw [hc]
  show (want == x) = _
  rw [Bool.eq_iff_iff, beq_iff_eq, decide_eq_true_iff]
  constructor
  · rintro rfl
    exact C.enc_inj hw hg (by rw [← hx, ← hy])
  · rintro rfl
    exact tl_ext (by rw [hx, hy])
end
end Mine
end
section
open PySem
set_option maxRecDepth 100000
set_option linter.unusedVariables false
namespace Mine
/-- the pages that there are -/
noncomputable def subsI : List Int → List (List Int)
  | [] => [[]]
  | a :: l => subsI l ++ (subsI l).map (a :: ·)
noncomputable def nextI (k : Int) (st : List Int × List Int) : List (List Int × List Int) :=
  (subsI st.2).flatMap fun g =>
    let ins := (st.2.filter fun j => !decide (j ∈ g)) ++ [k]
    if g.length < 2 then [(st.1 ++ g ++ [k], ins)] else [(st.1 ++ g ++ [k], ins), (st.1 ++ g.reverse ++ [k], ins)]
noncomputable def statesI : Nat → List (List Int × List Int)
  | 0 => [([], [])]
  | i + 1 => (statesI i).flatMap (nextI (i : Int))
noncomputable def endsI (st : List Int × List Int) : List (List Int) := if st.2.length < 2 then [st.1 ++ st.2] else [st.1 ++ st.2, st.1 ++ st.2.reverse]
noncomputable def pagesI : List (List Int) := (statesI 5).flatMap endsI
noncomputable def natsOf (l : List Int) : List Nat := l.map Int.toNat
noncomputable def saidG (pg st : List Nat) (x : Nat) : List (List Bool) :=
  [ (List.range 5).map fun y => ell1G pg [[], [x], [y], [y], []],
    (List.range 5).map fun y => ell1G st [[x], [y], [x]],
    ((List.range 5).map fun y => ell1G st [[y], []]) ++ ((List.range 5).map fun y => ell1G st [[], [y]]),
    [decide ([x, x] = st), ell1G st [[x], [], [x]], ell1G [x] [[x], [x]], decide ([x] = st), decide ([x, x] = [x])] ]
noncomputable def chkSaid (page : List Int) : Bool := (List.range 5).all fun x => saidG (natsOf page) (natsOf ((staysF page).getD x [])) x == dueRow page x
/-- who is there as x comes; d: ahead of whose coming each goes -/
noncomputable def metL (d : List Nat) (x : Nat) : List Nat := (List.range x).filter fun j => decide (x < d.getD j 0)
noncomputable def takenL (d : List Nat) (pay : List Bool) (rs : List Int) (x : Nat) : List Int := ((metL d x).filter fun j => pay.getD j false).map fun j => rs.getD j 0
noncomputable def roomsL (d : List Nat) (pay : List Bool) : Nat → List Int
  | 0 => []
  | x + 1 => roomsL d pay x ++ [leastI (freeF (takenL d pay (roomsL d pay x) x))]
noncomputable def mostL (d : List Nat) (pay : List Bool) : Nat → Int
  | 0 => 0
  | x + 1 => max (mostL d pay x) ((((metL d x) ++ [x]).filter fun j => pay.getD j false).length : Int)
noncomputable def pays : Nat → List (List Bool)
  | 0 => [[]]
  | n + 1 => (pays n).flatMap fun p => [true :: p, false :: p]
noncomputable def dsL : List (List Nat) := [1, 2, 3, 4, 5].flatMap fun a => [2, 3, 4, 5].flatMap fun b => [3, 4, 5].flatMap fun c => [4, 5].map fun e => [a, b, c, e, 5]
noncomputable def chkMost (d : List Nat) (pay : List Bool) : Bool :=
  (unlike (((List.range 5).filter fun x => pay.getD x false).map fun x => (roomsL d pay 5).getD x 0) : Int) == mostL d pay 5
noncomputable def dOf (p : List Int) : List Nat := (List.range 5).map fun j : Nat => ((List.range 5).filter fun y : Nat => decide (p.idxOf (y : Int) < 9 - p.reverse.idxOf (j : Int))).length
noncomputable def cntP (p : List Int) (i : Nat) : Nat := ((List.range 5).filter fun x : Nat => decide (p.idxOf (x : Int) < i)).length
noncomputable def chkBase (p : List Int) : Bool := p.length == 10 && (List.range 5).all (fun x : Nat => decide ((x : Int) ∈ p)) && p.all (fun x => decide (0 ≤ x) && decide (x < 5)) && (List.range 11).all (fun i => Nat.ble (insSt p i).length 5)
noncomputable def chkWalk (p : List Int) : Bool := dsL.contains (dOf p) && cntP p 0 == 0 && cntP p 10 == 5 && (List.range 10).all fun i =>
  if p.getD i 0 ∈ insSt p i then cntP p (i + 1) == cntP p i
  else p.getD i 0 == (cntP p i : Int) && cntP p (i + 1) == cntP p i + 1 && insSt p i == (metL (dOf p) (cntP p i)).map fun j : Nat => (j : Int)
noncomputable def chkMet (p : List Int) : Bool := (List.range 5).all fun x : Nat => (List.range x).all fun j : Nat => (decide ((j : Int) ∈ stayF p (x : Int)) || decide ((x : Int) ∈ stayF p (j : Int))) == decide (x < (dOf p).getD j 0)
noncomputable def chkPage (p : List Int) : Bool := chkBase p && chkWalk p && chkMet p && chkSaid p
end Mine
end
section
open PySem PySem.Calls PyProof.Rows PySem.Builtin.Str PySem.StrLaws
set_option maxRecDepth 100000
set_option linter.unusedVariables false
namespace Mine
theorem pops_map {α β : Type} [Inhabited α] [Inhabited β] (f : α → β) : ∀ (is : List Nat) (l : List α), popsOk l is → popsL (l.map f) is = (popsL l is).map f
  | [], _, _ => rfl
  | i :: is, l, h => by
    rw [popsL, popsL, List.map_cons, erase_map, pops_map f is (l.eraseIdx i) h.2]
    congr 1
    rw [List.getD_eq_getElem?_getD, List.getD_eq_getElem?_getD, List.getElem?_map, List.getElem?_eq_getElem h.1]; rfl
theorem pops_sub {α : Type} [Inhabited α] : ∀ (is : List Nat) (l : List α), popsOk l is → ∀ x ∈ popsL l is, x ∈ l
  | [], _, _, x, hx => by cases hx
  | i :: is, l, h, x, hx => by
    rw [popsL] at hx
    rcases List.mem_cons.mp hx with q | q
    · rw [q, List.getD_eq_getElem?_getD, List.getElem?_eq_getElem h.1]; exact List.getElem_mem _
    · exact List.mem_of_mem_eraseIdx (pops_sub is _ h.2 x q)
theorem nodup_inj {α : Type} {l : List α} (h : l.Nodup) {i j : Nat} (hi : i < l.length) (hj : j < l.length) (e : l[i] = l[j]) : i = j := by
  have hp := List.pairwise_iff_getElem.mp h
  rcases Nat.lt_trichotomy i j with q | q | q
  · exact absurd e (hp i j hi hj q)
  · exact q
  · exact absurd e.symm (hp j i hj hi q)
theorem pops_nodup {α : Type} [Inhabited α] : ∀ (is : List Nat) (l : List α), l.Nodup → popsOk l is → (popsL l is).Nodup
  | [], _, _, _ => List.nodup_nil
  | i :: is, l, hn, h => by
    rw [popsL, List.nodup_cons]
    refine ⟨fun q => ?_, pops_nodup is _ (List.Sublist.nodup (List.eraseIdx_sublist ..) hn) h.2⟩
    have hm := pops_sub is _ h.2 _ q
    obtain ⟨j, hj, hij, e⟩ := List.mem_eraseIdx_iff_getElem.mp hm
    rw [List.getD_eq_getElem?_getD, List.getElem?_eq_getElem h.1] at e
    have e' : l[j] = l[i]'h.1 := e
    exact hij (nodup_inj hn hj h.1 e')
theorem pops_len {α : Type} [Inhabited α] : ∀ (is : List Nat) (l : List α), (popsL l is).length = is.length
  | [], _ => rfl
  | i :: is, l => by rw [popsL, List.length_cons, List.length_cons, pops_len is]
noncomputable def mk1 (c : Nat) : Str := ⟨#[c]⟩
theorem left_eq : leftL = alpha.map mk1 := by decide +kernel
noncomputable def idxQ (q : Int) : List Nat := [(q.fmod 8).toNat, ((q.fdiv 8).fmod 7).toNat, ((q.fdiv 56).fmod 6).toNat, ((q.fdiv 336).fmod 5).toNat, ((q.fdiv 1680).fmod 4).toNat]
theorem idx_ok (q : Int) : popsOk alpha (idxQ q) := by
  have h1 := fmod_range (a := q) (b := 8) (by omega)
  have h2 := fmod_range (a := q.fdiv 8) (b := 7) (by omega)
  have h3 := fmod_range (a := q.fdiv 56) (b := 6) (by omega)
  have h4 := fmod_range (a := q.fdiv 336) (b := 5) (by omega)
  have h5 := fmod_range (a := q.fdiv 1680) (b := 4) (by omega)
  have e : ∀ (l : List Nat) (i n : Nat), l.length = n + 1 → i < n + 1 → (l.eraseIdx i).length = n := fun l i n hl hi => by rw [List.length_eraseIdx, if_pos (by omega)]; omega
  have a8 : alpha.length = 8 := rfl
  have a7 := e alpha (q.fmod 8).toNat 7 a8 (by omega)
  have a6 := e _ ((q.fdiv 8).fmod 7).toNat 6 a7 (by omega)
  have a5 := e _ ((q.fdiv 56).fmod 6).toNat 5 a6 (by omega)
  have a4 := e _ ((q.fdiv 336).fmod 5).toNat 4 a5 (by omega)
  exact ⟨by omega, by omega, by omega, by omega, by omega, trivial⟩
structure Let5 (S : List Nat) : Prop where
  len : S.length = 5
  sub : ∀ c ∈ S, c ∈ alpha
  nd : S.Nodup
theorem signs_let (q : Int) : ∃ S, signsF q = S.map mk1 ∧ Let5 S := by
  refine ⟨popsL alpha (idxQ q), ?_, pops_len _ _, pops_sub _ _ (idx_ok q), pops_nodup _ _ (by decide) (idx_ok q)⟩
  unfold signsF
  rw [left_eq]
  exact pops_map mk1 (idxQ q) alpha (idx_ok q)
theorem code_heads : (alpha.all fun a => match codeL a with | h :: t => hdC h && t.all (fun y => !hdC y) | [] => false) = true := by decide +kernel
theorem code_pre : (alpha.all fun a => alpha.all fun b => !(codeL a).isPrefixOf (codeL b) || a == b) = true := by decide +kernel
theorem code_dot : (alpha.all fun a => !(codeL a).contains 46) = true := by decide +kernel
noncomputable abbrev cdS (S : List Nat) (x : Nat) : List Nat := codeL (S.getD x 0)
theorem Let5.mem {S : List Nat} (h : Let5 S) {x : Nat} (hx : x < 5) : S.getD x 0 ∈ S := by
  rw [List.getD_eq_getElem?_getD, List.getElem?_eq_getElem (by rw [h.len]; exact hx)]; exact List.getElem_mem _
theorem Let5.cd {S : List Nat} (h : Let5 S) : Cd (cdS S) where
  head := fun x hx => by
    have := List.all_eq_true.mp code_heads _ (h.sub _ (h.mem hx))
    unfold cdS
    revert this
    cases codeL (S.getD x 0) with
    | nil => intro q; cases q
    | cons a t =>
      intro q
      have q := Bool.and_eq_true_iff.mp q
      exact ⟨a, t, rfl, q.1, fun y hy => by simpa using List.all_eq_true.mp q.2 y hy⟩
  pre := fun x y hx hy hp => by
    have := List.all_eq_true.mp (List.all_eq_true.mp code_pre _ (h.sub _ (h.mem hx))) _ (h.sub _ (h.mem hy))
    have hp' : (codeL (S.getD x 0)).isPrefixOf (codeL (S.getD y 0)) = true := List.isPrefixOf_iff_prefix.mpr hp
    rw [hp'] at this
    have e : S.getD x 0 = S.getD y 0 := by simpa using this
    have hn := h.nd
    have hx' : x < S.length := by rw [h.len]; exact hx
    have hy' : y < S.length := by rw [h.len]; exact hy
    rw [List.getD_eq_getElem?_getD, List.getD_eq_getElem?_getD, List.getElem?_eq_getElem hx', List.getElem?_eq_getElem hy'] at e
    exact nodup_inj hn hx' hy' e
  dot := fun x hx => by
    have := List.all_eq_true.mp code_dot _ (h.sub _ (h.mem hx))
    intro q
    have q' : (codeL (S.getD x 0)).contains 46 = true := List.contains_iff_mem.mpr q
    rw [q'] at this; cases this
theorem lens6 : (alpha.all fun c => Nat.ble ((tabL.lookup ⟨#[c]⟩).getD "").length 6) = true := by decide +kernel
theorem row_ok {r : Str} (ha : ∀ c ∈ tl r, c ∈ alpha) (hl : (tl r).length ≤ 10) : RowOk r where
  h0 := by rw [tl_len]; omega
  h1 := by rw [tl_len, esc1_tl]; have := h1.short short1 (tl r) ha; omega
  h2 := by rw [tl_len, esc2_tl]; have := h2.short short2 (tl r) ha; omega
  h3 := by rw [tl_len, esc3_tl]; have := h3.short short3 (tl r) ha; omega
  h4 := by rw [tl_len, esc4_tl]; have := h4.short short4 (tl r) ha; omega
  h5 := by rw [tl_len, esc5_tl]; have := h5.short short5 (tl r) ha; omega
  hx := fun c hc => Option.isSome_iff_exists.mp (lookups c (ha c hc))
  hj := by
    have hB : ∀ y ∈ spellL r, y.length ≤ 6 := fun y hy => by
      unfold spellL at hy
      obtain ⟨c, hc, rfl⟩ := List.mem_map.mp hy
      exact Nat.ble_eq.mp (List.all_eq_true.mp lens6 c (ha c hc))
    have e : (spellL r).length ≤ 10 := by unfold spellL; rw [List.length_map]; exact hl
    have e0 : ("" : Str).length = 0 := by decide +kernel
    have hq := joinFits (sep := "") hB (by rw [e0]; omega)
    unfold JoinOk
    rw [hq]; rfl
  hz := Nat.le_trans hl (by decide +kernel)
  eq := tl_ext (by rw [esc_tl r ha, spell_tl])
theorem sign_getD {S : List Nat} (h : Let5 S) {x : Nat} (hx : x < 5) : (S.map mk1).getD x "" = mk1 (S.getD x 0) := by
  have hx' : x < S.length := by rw [h.len]; exact hx
  rw [List.getD_eq_getElem?_getD, List.getD_eq_getElem?_getD, List.getElem?_map, List.getElem?_eq_getElem hx']; rfl
theorem row_tl {S : List Nat} (h : Let5 S) {stay : List Int} (hs : ∀ x ∈ stay, 0 ≤ x ∧ x < 5) : tl (rowF (S.map mk1) stay) = (natsOf stay).map fun x => S.getD x 0 := by
  unfold rowF natsOf
  rw [tl_txtjoin0, List.flatMap_map, List.map_map]
  induction stay with
  | nil => rfl
  | cons a l ih =>
    obtain ⟨h0, h5⟩ := hs a (.head _)
    rw [List.flatMap_cons, List.map_cons, ih fun x hx => hs x (.tail _ hx)]
    rw [sign_getD h (by omega)]; rfl
theorem nats_lo {stay : List Int} (hs : ∀ x ∈ stay, 0 ≤ x ∧ x < 5) : Lo (natsOf stay) := fun x hx => by
  obtain ⟨a, ha, rfl⟩ := List.mem_map.mp hx
  have := hs a ha
  omega
theorem row_alpha {S : List Nat} (h : Let5 S) {stay : List Int} (hs : ∀ x ∈ stay, 0 ≤ x ∧ x < 5) : ∀ c ∈ tl (rowF (S.map mk1) stay), c ∈ alpha := fun c hc => by
  rw [row_tl h hs] at hc
  obtain ⟨x, hx, rfl⟩ := List.mem_map.mp hc
  exact h.sub _ (h.mem (nats_lo hs x hx))
theorem esc_row {S : List Nat} (h : Let5 S) {stay : List Int} (hs : ∀ x ∈ stay, 0 ≤ x ∧ x < 5) : tl (escF (rowF (S.map mk1) stay)) = (natsOf stay).flatMap (cdS S) := by
  rw [esc_tl _ (row_alpha h hs), row_tl h hs, List.flatMap_map]
theorem sign_alpha {S : List Nat} (h : Let5 S) {r : Str} (hr : r ∈ S.map mk1) : (∀ c ∈ tl r, c ∈ alpha) ∧ (tl r).length = 1 := by
  obtain ⟨a, ha, rfl⟩ := List.mem_map.mp hr
  refine ⟨fun c hc => ?_, rfl⟩
  rw [List.mem_singleton.mp hc]; exact h.sub a ha
theorem mark_tl {S : List Nat} (h : Let5 S) {x : Nat} (hx : x < 5) : tl (((S.map mk1).map escF).getD x "") = [x].flatMap (cdS S) := by
  have hx' : x < S.length := by rw [h.len]; exact hx
  rw [List.getD_eq_getElem?_getD, List.getElem?_map, List.getElem?_map, List.getElem?_eq_getElem hx']
  show tl (escF (mk1 S[x])) = _
  rw [esc_tl _ (sign_alpha h (List.mem_map_of_mem (List.getElem_mem hx'))).1]
  unfold cdS
  rw [List.flatMap_cons, List.flatMap_nil, List.append_nil, List.getD_eq_getElem?_getD, List.getElem?_eq_getElem hx']
  exact (List.flatMap_cons ..).trans (List.append_nil _)
theorem five_eq {α : Type} {l : List α} (d : α) (h : l.length = 5) : l = (List.range 5).map fun y => l.getD y d := by
  match l, h with
  | [a, b, c, e, f], _ => rfl
end Mine
end
section
open PySem PySem.Calls PyProof.Rows PySem.Builtin.Str PySem.StrLaws
set_option maxRecDepth 100000
set_option linter.unusedVariables false
namespace Mine
theorem dots_tl : tl ("..." : Str) = [46, 46, 46] := by decide +kernel
theorem dots6_tl : tl ("......" : Str) = [46, 46, 46, 46, 46, 46] := by decide +kernel
section
variable {c : Nat → List Nat} (C : Cd c) {own wr w5 mark : Str} {x y : Nat} {st pg : List Nat}
include C
theorem lo_nil : Lo [] := fun x hx => by cases hx
theorem lo_one {a : Nat} (h : a < 5) : Lo [a] := fun x hx => by rw [List.mem_singleton.mp hx]; exact h
theorem lo_two {a : Nat} (h : a < 5) : Lo [a, a] := fun x hx => by
  rcases List.mem_cons.mp hx with q | q
  · rw [q]; exact h
  · rw [List.mem_singleton.mp q]; exact h
theorem g1 (hx : x < 5) (hy : y < 5) (hp : Lo pg) (ho : tl own = [x].flatMap c) (hm : tl mark = [y].flatMap c) (h5 : tl w5 = pg.flatMap c) : ellF ("..." ++ own ++ "..." ++ mark ++ "..." ++ mark ++ "...") w5 = ell1G pg [[], [x], [y], [y], []] := by
  refine C.mF hp h5 ?_ (by simp) ?_
  · intro w hw
    simp only [List.mem_cons, List.not_mem_nil, or_false] at hw
    rcases hw with rfl | rfl | rfl | rfl | rfl
    · exact lo_nil C
    · exact lo_one C hx
    · exact lo_one C hy
    · exact lo_one C hy
    · exact lo_nil C
  · simp only [tl_app, dots_tl, ho, hm, List.map_cons, List.map_nil, joinD, List.flatMap_nil, List.nil_append, List.append_nil, List.append_assoc]
theorem g2 (hx : x < 5) (hy : y < 5) (hp : Lo st) (ho : tl own = [x].flatMap c) (hm : tl mark = [y].flatMap c) (h5 : tl wr = st.flatMap c) : ellF (own ++ "..." ++ mark ++ "..." ++ own) wr = ell1G st [[x], [y], [x]] := by
  refine C.mF hp h5 ?_ (by simp) ?_
  · intro w hw
    simp only [List.mem_cons, List.not_mem_nil, or_false] at hw
    rcases hw with rfl | rfl | rfl
    · exact lo_one C hx
    · exact lo_one C hy
    · exact lo_one C hx
  · simp only [tl_app, dots_tl, ho, hm, List.map_cons, List.map_nil, joinD, List.flatMap_nil, List.nil_append, List.append_nil, List.append_assoc]
theorem g3 (hy : y < 5) (hp : Lo st) (hm : tl mark = [y].flatMap c) (h5 : tl wr = st.flatMap c) : ellF (mark ++ "...") wr = ell1G st [[y], []] := by
  refine C.mF hp h5 ?_ (by simp) ?_
  · intro w hw
    simp only [List.mem_cons, List.not_mem_nil, or_false] at hw
    rcases hw with rfl | rfl
    · exact lo_one C hy
    · exact lo_nil C
  · simp only [tl_app, dots_tl, hm, List.map_cons, List.map_nil, joinD, List.flatMap_nil, List.nil_append, List.append_nil, List.append_assoc]
theorem g4 (hy : y < 5) (hp : Lo st) (hm : tl mark = [y].flatMap c) (h5 : tl wr = st.flatMap c) : ellF ("..." ++ mark) wr = ell1G st [[], [y]] := by
  refine C.mF hp h5 ?_ (by simp) ?_
  · intro w hw
    simp only [List.mem_cons, List.not_mem_nil, or_false] at hw
    rcases hw with rfl | rfl
    · exact lo_nil C
    · exact lo_one C hy
  · simp only [tl_app, dots_tl, hm, List.map_cons, List.map_nil, joinD, List.flatMap_nil, List.nil_append, List.append_nil, List.append_assoc]
theorem two_flat {a : Nat} : [a].flatMap c ++ [a].flatMap c = [a, a].flatMap c := by rw [← List.flatMap_append]; rfl
theorem g5 (hx : x < 5) (hp : Lo st) (ho : tl own = [x].flatMap c) (h5 : tl wr = st.flatMap c) : ellF (own ++ own) wr = decide ([x, x] = st) :=
  C.mP hp (lo_two C hx) h5 (by rw [tl_app, ho, two_flat C])
theorem g6 (hx : x < 5) (hp : Lo st) (ho : tl own = [x].flatMap c) (h5 : tl wr = st.flatMap c) : ellF (own ++ "......" ++ own) wr = ell1G st [[x], [], [x]] := by
  refine C.mF hp h5 ?_ (by simp) ?_
  · intro w hw
    simp only [List.mem_cons, List.not_mem_nil, or_false] at hw
    rcases hw with rfl | rfl | rfl
    · exact lo_one C hx
    · exact lo_nil C
    · exact lo_one C hx
  · simp only [tl_app, dots6_tl, ho, List.map_cons, List.map_nil, joinD, List.flatMap_nil, List.nil_append, List.append_nil, List.append_assoc]
    simp
theorem g7 (hx : x < 5) (ho : tl own = [x].flatMap c) : ellF (own ++ "..." ++ own) own = ell1G [x] [[x], [x]] := by
  refine C.mF (lo_one C hx) ho ?_ (by simp) ?_
  · intro w hw
    simp only [List.mem_cons, List.not_mem_nil, or_false] at hw
    rcases hw with rfl | rfl
    · exact lo_one C hx
    · exact lo_one C hx
  · simp only [tl_app, dots_tl, ho, List.map_cons, List.map_nil, joinD, List.flatMap_nil, List.nil_append, List.append_nil, List.append_assoc]
theorem g8 (hx : x < 5) (hp : Lo st) (ho : tl own = [x].flatMap c) (h5 : tl wr = st.flatMap c) : ellF own wr = decide ([x] = st) := C.mP hp (lo_one C hx) h5 ho
end
theorem said_eq {S : List Nat} (h : Let5 S) {page : List Int} (hr : ∀ x ∈ page, 0 ≤ x ∧ x < 5) (hc : chkSaid page = true) :
    saidF ((S.map mk1).map escF) ((rowsF page (S.map mk1)).map escF) 5 = dueF page 5 := by
  unfold saidF dueF
  refine flat_congr fun x hx => ?_
  have hx5 : x < 5 := List.mem_range.mp hx
  have hcx : saidG (natsOf page) (natsOf ((staysF page).getD x [])) x = dueRow page x := by
    have := List.all_eq_true.mp hc x hx
    exact eq_of_beq this
  rw [← hcx]
  have C := h.cd
  have hmap : ∀ (f : Str → Bool), ((S.map mk1).map escF).map f = (List.range 5).map fun y => f (((S.map mk1).map escF).getD y "") := fun f => by
    have e := five_eq (l := (S.map mk1).map escF) "" (by rw [List.length_map, List.length_map, h.len])
    conv => lhs; rw [e]
    rw [List.map_map]
    try rfl
  have hst : ∀ z ∈ (staysF page).getD x [], 0 ≤ z ∧ z < 5 := fun z hz => by
    have hm : (staysF page).getD x [] ∈ staysF page := by
      rw [List.getD_eq_getElem?_getD, List.getElem?_eq_getElem (by rw [stays_len]; exact hx5)]; exact List.getElem_mem _
    exact hr z ((stays_sub (List.mem_append_left _ hm)).1 z hz)
  have hw : tl (((rowsF page (S.map mk1)).map escF).getD x "") = (natsOf ((staysF page).getD x [])).flatMap (cdS S) := by
    have hl : x < (staysF page).length := by rw [stays_len]; exact hx5
    rw [← esc_row h hst]
    congr 1
    unfold rowsF
    rw [List.getD_eq_getElem?_getD, List.map_map, List.getElem?_map, List.getElem?_append_left hl, List.getD_eq_getElem?_getD, List.getElem?_eq_getElem hl]; rfl
  have hw5 : tl (((rowsF page (S.map mk1)).map escF).getD 5 "") = (natsOf page).flatMap (cdS S) := by
    rw [← esc_row h hr]
    rfl
  have lp := nats_lo hr
  have ls := nats_lo hst
  have ho := mark_tl h hx5
  generalize hO : ((S.map mk1).map escF).getD x "" = own at *
  generalize hWr : ((rowsF page (S.map mk1)).map escF).getD x "" = wr at *
  generalize hW5 : ((rowsF page (S.map mk1)).map escF).getD 5 "" = w5 at *
  generalize natsOf ((staysF page).getD x []) = st at *
  generalize natsOf page = pg at *
  have cg : ∀ (f g : Nat → Bool), (∀ y, y < 5 → f y = g y) → (List.range 5).map f = (List.range 5).map g := fun f g hfg => List.map_congr_left fun y hy => hfg y (List.mem_range.mp hy)
  unfold saidRow saidG
  rw [hO, hWr, hW5]
  have r1 : said1 own w5 ((S.map mk1).map escF) = (List.range 5).map fun y => ell1G pg [[], [x], [y], [y], []] := by
    unfold said1
    rw [hmap]
    exact cg _ _ fun y hy => g1 C hx5 hy lp ho (mark_tl h hy) hw5
  have r2 : said2 own wr ((S.map mk1).map escF) = (List.range 5).map fun y => ell1G st [[x], [y], [x]] := by
    unfold said2
    rw [hmap]
    exact cg _ _ fun y hy => g2 C hx5 hy ls ho (mark_tl h hy) hw
  have r3 : said3 wr ((S.map mk1).map escF) = ((List.range 5).map fun y => ell1G st [[y], []]) ++ ((List.range 5).map fun y => ell1G st [[], [y]]) := by
    unfold said3
    rw [hmap, hmap]
    rw [cg _ _ fun y hy => g3 C hy ls (mark_tl h hy) hw, cg _ _ fun y hy => g4 C hy ls (mark_tl h hy) hw]
  have r4 : said4 own wr = [decide ([x, x] = st), ell1G st [[x], [], [x]], ell1G [x] [[x], [x]], decide ([x] = st), decide ([x, x] = [x])] := by
    unfold said4
    rw [g5 C hx5 ls ho hw, g6 C hx5 ls ho hw, g7 C hx5 ho, g8 C hx5 ls ho hw, g5 C hx5 (lo_one C hx5) ho ho]
  rw [r1, r2, r3, r4]
end Mine
end
section
open PySem
set_option maxRecDepth 100000
set_option linter.unusedVariables false
namespace Mine
noncomputable def pgC0 : List (List Int) := [[0, 1, 2, 3, 4, 0, 1, 2, 3, 4], [0, 1, 2, 3, 4, 4, 3, 2, 1, 0], [0, 1, 2, 3, 3, 4, 0, 1, 2, 4], [0, 1, 2, 3, 3, 4, 4, 2, 1, 0], [0, 1, 2, 3, 2, 4, 0, 1, 3, 4], [0, 1, 2, 3, 2, 4, 4, 3, 1, 0], [0, 1, 2, 3, 2, 3, 4, 0, 1, 4], [0, 1, 2, 3, 2, 3, 4, 4, 1, 0], [0, 1, 2, 3, 3, 2, 4, 0, 1, 4], [0, 1, 2, 3, 3, 2, 4, 4, 1, 0], [0, 1, 2, 3, 1, 4, 0, 2, 3, 4], [0, 1, 2, 3, 1, 4, 4, 3, 2, 0]]
noncomputable def pgC1 : List (List Int) := [[0, 1, 2, 3, 1, 3, 4, 0, 2, 4], [0, 1, 2, 3, 1, 3, 4, 4, 2, 0], [0, 1, 2, 3, 3, 1, 4, 0, 2, 4], [0, 1, 2, 3, 3, 1, 4, 4, 2, 0], [0, 1, 2, 3, 1, 2, 4, 0, 3, 4], [0, 1, 2, 3, 1, 2, 4, 4, 3, 0], [0, 1, 2, 3, 2, 1, 4, 0, 3, 4], [0, 1, 2, 3, 2, 1, 4, 4, 3, 0], [0, 1, 2, 3, 1, 2, 3, 4, 0, 4], [0, 1, 2, 3, 1, 2, 3, 4, 4, 0], [0, 1, 2, 3, 3, 2, 1, 4, 0, 4], [0, 1, 2, 3, 3, 2, 1, 4, 4, 0]]
noncomputable def pgC2 : List (List Int) := [[0, 1, 2, 3, 0, 4, 1, 2, 3, 4], [0, 1, 2, 3, 0, 4, 4, 3, 2, 1], [0, 1, 2, 3, 0, 3, 4, 1, 2, 4], [0, 1, 2, 3, 0, 3, 4, 4, 2, 1], [0, 1, 2, 3, 3, 0, 4, 1, 2, 4], [0, 1, 2, 3, 3, 0, 4, 4, 2, 1], [0, 1, 2, 3, 0, 2, 4, 1, 3, 4], [0, 1, 2, 3, 0, 2, 4, 4, 3, 1], [0, 1, 2, 3, 2, 0, 4, 1, 3, 4], [0, 1, 2, 3, 2, 0, 4, 4, 3, 1], [0, 1, 2, 3, 0, 2, 3, 4, 1, 4], [0, 1, 2, 3, 0, 2, 3, 4, 4, 1]]
noncomputable def pgC3 : List (List Int) := [[0, 1, 2, 3, 3, 2, 0, 4, 1, 4], [0, 1, 2, 3, 3, 2, 0, 4, 4, 1], [0, 1, 2, 3, 0, 1, 4, 2, 3, 4], [0, 1, 2, 3, 0, 1, 4, 4, 3, 2], [0, 1, 2, 3, 1, 0, 4, 2, 3, 4], [0, 1, 2, 3, 1, 0, 4, 4, 3, 2], [0, 1, 2, 3, 0, 1, 3, 4, 2, 4], [0, 1, 2, 3, 0, 1, 3, 4, 4, 2], [0, 1, 2, 3, 3, 1, 0, 4, 2, 4], [0, 1, 2, 3, 3, 1, 0, 4, 4, 2], [0, 1, 2, 3, 0, 1, 2, 4, 3, 4], [0, 1, 2, 3, 0, 1, 2, 4, 4, 3]]
noncomputable def pgC4 : List (List Int) := [[0, 1, 2, 3, 2, 1, 0, 4, 3, 4], [0, 1, 2, 3, 2, 1, 0, 4, 4, 3], [0, 1, 2, 3, 0, 1, 2, 3, 4, 4], [0, 1, 2, 3, 3, 2, 1, 0, 4, 4], [0, 1, 2, 2, 3, 4, 0, 1, 3, 4], [0, 1, 2, 2, 3, 4, 4, 3, 1, 0], [0, 1, 2, 2, 3, 3, 4, 0, 1, 4], [0, 1, 2, 2, 3, 3, 4, 4, 1, 0], [0, 1, 2, 2, 3, 1, 4, 0, 3, 4], [0, 1, 2, 2, 3, 1, 4, 4, 3, 0], [0, 1, 2, 2, 3, 1, 3, 4, 0, 4], [0, 1, 2, 2, 3, 1, 3, 4, 4, 0]]
noncomputable def pgC5 : List (List Int) := [[0, 1, 2, 2, 3, 3, 1, 4, 0, 4], [0, 1, 2, 2, 3, 3, 1, 4, 4, 0], [0, 1, 2, 2, 3, 0, 4, 1, 3, 4], [0, 1, 2, 2, 3, 0, 4, 4, 3, 1], [0, 1, 2, 2, 3, 0, 3, 4, 1, 4], [0, 1, 2, 2, 3, 0, 3, 4, 4, 1], [0, 1, 2, 2, 3, 3, 0, 4, 1, 4], [0, 1, 2, 2, 3, 3, 0, 4, 4, 1], [0, 1, 2, 2, 3, 0, 1, 4, 3, 4], [0, 1, 2, 2, 3, 0, 1, 4, 4, 3], [0, 1, 2, 2, 3, 1, 0, 4, 3, 4], [0, 1, 2, 2, 3, 1, 0, 4, 4, 3]]
noncomputable def pgC6 : List (List Int) := [[0, 1, 2, 2, 3, 0, 1, 3, 4, 4], [0, 1, 2, 2, 3, 3, 1, 0, 4, 4], [0, 1, 2, 1, 3, 4, 0, 2, 3, 4], [0, 1, 2, 1, 3, 4, 4, 3, 2, 0], [0, 1, 2, 1, 3, 3, 4, 0, 2, 4], [0, 1, 2, 1, 3, 3, 4, 4, 2, 0], [0, 1, 2, 1, 3, 2, 4, 0, 3, 4], [0, 1, 2, 1, 3, 2, 4, 4, 3, 0], [0, 1, 2, 1, 3, 2, 3, 4, 0, 4], [0, 1, 2, 1, 3, 2, 3, 4, 4, 0], [0, 1, 2, 1, 3, 3, 2, 4, 0, 4], [0, 1, 2, 1, 3, 3, 2, 4, 4, 0]]
noncomputable def pgC7 : List (List Int) := [[0, 1, 2, 1, 3, 0, 4, 2, 3, 4], [0, 1, 2, 1, 3, 0, 4, 4, 3, 2], [0, 1, 2, 1, 3, 0, 3, 4, 2, 4], [0, 1, 2, 1, 3, 0, 3, 4, 4, 2], [0, 1, 2, 1, 3, 3, 0, 4, 2, 4], [0, 1, 2, 1, 3, 3, 0, 4, 4, 2], [0, 1, 2, 1, 3, 0, 2, 4, 3, 4], [0, 1, 2, 1, 3, 0, 2, 4, 4, 3], [0, 1, 2, 1, 3, 2, 0, 4, 3, 4], [0, 1, 2, 1, 3, 2, 0, 4, 4, 3], [0, 1, 2, 1, 3, 0, 2, 3, 4, 4], [0, 1, 2, 1, 3, 3, 2, 0, 4, 4]]
noncomputable def pgC8 : List (List Int) := [[0, 1, 2, 1, 2, 3, 4, 0, 3, 4], [0, 1, 2, 1, 2, 3, 4, 4, 3, 0], [0, 1, 2, 1, 2, 3, 3, 4, 0, 4], [0, 1, 2, 1, 2, 3, 3, 4, 4, 0], [0, 1, 2, 1, 2, 3, 0, 4, 3, 4], [0, 1, 2, 1, 2, 3, 0, 4, 4, 3], [0, 1, 2, 1, 2, 3, 0, 3, 4, 4], [0, 1, 2, 1, 2, 3, 3, 0, 4, 4], [0, 1, 2, 2, 1, 3, 4, 0, 3, 4], [0, 1, 2, 2, 1, 3, 4, 4, 3, 0], [0, 1, 2, 2, 1, 3, 3, 4, 0, 4], [0, 1, 2, 2, 1, 3, 3, 4, 4, 0]]
noncomputable def pgC9 : List (List Int) := [[0, 1, 2, 2, 1, 3, 0, 4, 3, 4], [0, 1, 2, 2, 1, 3, 0, 4, 4, 3], [0, 1, 2, 2, 1, 3, 0, 3, 4, 4], [0, 1, 2, 2, 1, 3, 3, 0, 4, 4], [0, 1, 2, 0, 3, 4, 1, 2, 3, 4], [0, 1, 2, 0, 3, 4, 4, 3, 2, 1], [0, 1, 2, 0, 3, 3, 4, 1, 2, 4], [0, 1, 2, 0, 3, 3, 4, 4, 2, 1], [0, 1, 2, 0, 3, 2, 4, 1, 3, 4], [0, 1, 2, 0, 3, 2, 4, 4, 3, 1], [0, 1, 2, 0, 3, 2, 3, 4, 1, 4], [0, 1, 2, 0, 3, 2, 3, 4, 4, 1]]
noncomputable def pgC10 : List (List Int) := [[0, 1, 2, 0, 3, 3, 2, 4, 1, 4], [0, 1, 2, 0, 3, 3, 2, 4, 4, 1], [0, 1, 2, 0, 3, 1, 4, 2, 3, 4], [0, 1, 2, 0, 3, 1, 4, 4, 3, 2], [0, 1, 2, 0, 3, 1, 3, 4, 2, 4], [0, 1, 2, 0, 3, 1, 3, 4, 4, 2], [0, 1, 2, 0, 3, 3, 1, 4, 2, 4], [0, 1, 2, 0, 3, 3, 1, 4, 4, 2], [0, 1, 2, 0, 3, 1, 2, 4, 3, 4], [0, 1, 2, 0, 3, 1, 2, 4, 4, 3], [0, 1, 2, 0, 3, 2, 1, 4, 3, 4], [0, 1, 2, 0, 3, 2, 1, 4, 4, 3]]
noncomputable def pgC11 : List (List Int) := [[0, 1, 2, 0, 3, 1, 2, 3, 4, 4], [0, 1, 2, 0, 3, 3, 2, 1, 4, 4], [0, 1, 2, 0, 2, 3, 4, 1, 3, 4], [0, 1, 2, 0, 2, 3, 4, 4, 3, 1], [0, 1, 2, 0, 2, 3, 3, 4, 1, 4], [0, 1, 2, 0, 2, 3, 3, 4, 4, 1], [0, 1, 2, 0, 2, 3, 1, 4, 3, 4], [0, 1, 2, 0, 2, 3, 1, 4, 4, 3], [0, 1, 2, 0, 2, 3, 1, 3, 4, 4], [0, 1, 2, 0, 2, 3, 3, 1, 4, 4], [0, 1, 2, 2, 0, 3, 4, 1, 3, 4], [0, 1, 2, 2, 0, 3, 4, 4, 3, 1]]
noncomputable def pgC12 : List (List Int) := [[0, 1, 2, 2, 0, 3, 3, 4, 1, 4], [0, 1, 2, 2, 0, 3, 3, 4, 4, 1], [0, 1, 2, 2, 0, 3, 1, 4, 3, 4], [0, 1, 2, 2, 0, 3, 1, 4, 4, 3], [0, 1, 2, 2, 0, 3, 1, 3, 4, 4], [0, 1, 2, 2, 0, 3, 3, 1, 4, 4], [0, 1, 2, 0, 1, 3, 4, 2, 3, 4], [0, 1, 2, 0, 1, 3, 4, 4, 3, 2], [0, 1, 2, 0, 1, 3, 3, 4, 2, 4], [0, 1, 2, 0, 1, 3, 3, 4, 4, 2], [0, 1, 2, 0, 1, 3, 2, 4, 3, 4], [0, 1, 2, 0, 1, 3, 2, 4, 4, 3]]
noncomputable def pgC13 : List (List Int) := [[0, 1, 2, 0, 1, 3, 2, 3, 4, 4], [0, 1, 2, 0, 1, 3, 3, 2, 4, 4], [0, 1, 2, 1, 0, 3, 4, 2, 3, 4], [0, 1, 2, 1, 0, 3, 4, 4, 3, 2], [0, 1, 2, 1, 0, 3, 3, 4, 2, 4], [0, 1, 2, 1, 0, 3, 3, 4, 4, 2], [0, 1, 2, 1, 0, 3, 2, 4, 3, 4], [0, 1, 2, 1, 0, 3, 2, 4, 4, 3], [0, 1, 2, 1, 0, 3, 2, 3, 4, 4], [0, 1, 2, 1, 0, 3, 3, 2, 4, 4], [0, 1, 2, 0, 1, 2, 3, 4, 3, 4], [0, 1, 2, 0, 1, 2, 3, 4, 4, 3]]
noncomputable def pgC14 : List (List Int) := [[0, 1, 2, 0, 1, 2, 3, 3, 4, 4], [0, 1, 2, 2, 1, 0, 3, 4, 3, 4], [0, 1, 2, 2, 1, 0, 3, 4, 4, 3], [0, 1, 2, 2, 1, 0, 3, 3, 4, 4], [0, 1, 1, 2, 3, 4, 0, 2, 3, 4], [0, 1, 1, 2, 3, 4, 4, 3, 2, 0], [0, 1, 1, 2, 3, 3, 4, 0, 2, 4], [0, 1, 1, 2, 3, 3, 4, 4, 2, 0], [0, 1, 1, 2, 3, 2, 4, 0, 3, 4], [0, 1, 1, 2, 3, 2, 4, 4, 3, 0], [0, 1, 1, 2, 3, 2, 3, 4, 0, 4], [0, 1, 1, 2, 3, 2, 3, 4, 4, 0]]
noncomputable def pgC15 : List (List Int) := [[0, 1, 1, 2, 3, 3, 2, 4, 0, 4], [0, 1, 1, 2, 3, 3, 2, 4, 4, 0], [0, 1, 1, 2, 3, 0, 4, 2, 3, 4], [0, 1, 1, 2, 3, 0, 4, 4, 3, 2], [0, 1, 1, 2, 3, 0, 3, 4, 2, 4], [0, 1, 1, 2, 3, 0, 3, 4, 4, 2], [0, 1, 1, 2, 3, 3, 0, 4, 2, 4], [0, 1, 1, 2, 3, 3, 0, 4, 4, 2], [0, 1, 1, 2, 3, 0, 2, 4, 3, 4], [0, 1, 1, 2, 3, 0, 2, 4, 4, 3], [0, 1, 1, 2, 3, 2, 0, 4, 3, 4], [0, 1, 1, 2, 3, 2, 0, 4, 4, 3]]
noncomputable def pgC16 : List (List Int) := [[0, 1, 1, 2, 3, 0, 2, 3, 4, 4], [0, 1, 1, 2, 3, 3, 2, 0, 4, 4], [0, 1, 1, 2, 2, 3, 4, 0, 3, 4], [0, 1, 1, 2, 2, 3, 4, 4, 3, 0], [0, 1, 1, 2, 2, 3, 3, 4, 0, 4], [0, 1, 1, 2, 2, 3, 3, 4, 4, 0], [0, 1, 1, 2, 2, 3, 0, 4, 3, 4], [0, 1, 1, 2, 2, 3, 0, 4, 4, 3], [0, 1, 1, 2, 2, 3, 0, 3, 4, 4], [0, 1, 1, 2, 2, 3, 3, 0, 4, 4], [0, 1, 1, 2, 0, 3, 4, 2, 3, 4], [0, 1, 1, 2, 0, 3, 4, 4, 3, 2]]
noncomputable def pgC17 : List (List Int) := [[0, 1, 1, 2, 0, 3, 3, 4, 2, 4], [0, 1, 1, 2, 0, 3, 3, 4, 4, 2], [0, 1, 1, 2, 0, 3, 2, 4, 3, 4], [0, 1, 1, 2, 0, 3, 2, 4, 4, 3], [0, 1, 1, 2, 0, 3, 2, 3, 4, 4], [0, 1, 1, 2, 0, 3, 3, 2, 4, 4], [0, 1, 1, 2, 0, 2, 3, 4, 3, 4], [0, 1, 1, 2, 0, 2, 3, 4, 4, 3], [0, 1, 1, 2, 0, 2, 3, 3, 4, 4], [0, 1, 1, 2, 2, 0, 3, 4, 3, 4], [0, 1, 1, 2, 2, 0, 3, 4, 4, 3], [0, 1, 1, 2, 2, 0, 3, 3, 4, 4]]
noncomputable def pgC18 : List (List Int) := [[0, 1, 0, 2, 3, 4, 1, 2, 3, 4], [0, 1, 0, 2, 3, 4, 4, 3, 2, 1], [0, 1, 0, 2, 3, 3, 4, 1, 2, 4], [0, 1, 0, 2, 3, 3, 4, 4, 2, 1], [0, 1, 0, 2, 3, 2, 4, 1, 3, 4], [0, 1, 0, 2, 3, 2, 4, 4, 3, 1], [0, 1, 0, 2, 3, 2, 3, 4, 1, 4], [0, 1, 0, 2, 3, 2, 3, 4, 4, 1], [0, 1, 0, 2, 3, 3, 2, 4, 1, 4], [0, 1, 0, 2, 3, 3, 2, 4, 4, 1], [0, 1, 0, 2, 3, 1, 4, 2, 3, 4], [0, 1, 0, 2, 3, 1, 4, 4, 3, 2]]
noncomputable def pgC19 : List (List Int) := [[0, 1, 0, 2, 3, 1, 3, 4, 2, 4], [0, 1, 0, 2, 3, 1, 3, 4, 4, 2], [0, 1, 0, 2, 3, 3, 1, 4, 2, 4], [0, 1, 0, 2, 3, 3, 1, 4, 4, 2], [0, 1, 0, 2, 3, 1, 2, 4, 3, 4], [0, 1, 0, 2, 3, 1, 2, 4, 4, 3], [0, 1, 0, 2, 3, 2, 1, 4, 3, 4], [0, 1, 0, 2, 3, 2, 1, 4, 4, 3], [0, 1, 0, 2, 3, 1, 2, 3, 4, 4], [0, 1, 0, 2, 3, 3, 2, 1, 4, 4], [0, 1, 0, 2, 2, 3, 4, 1, 3, 4], [0, 1, 0, 2, 2, 3, 4, 4, 3, 1]]
noncomputable def pgC20 : List (List Int) := [[0, 1, 0, 2, 2, 3, 3, 4, 1, 4], [0, 1, 0, 2, 2, 3, 3, 4, 4, 1], [0, 1, 0, 2, 2, 3, 1, 4, 3, 4], [0, 1, 0, 2, 2, 3, 1, 4, 4, 3], [0, 1, 0, 2, 2, 3, 1, 3, 4, 4], [0, 1, 0, 2, 2, 3, 3, 1, 4, 4], [0, 1, 0, 2, 1, 3, 4, 2, 3, 4], [0, 1, 0, 2, 1, 3, 4, 4, 3, 2], [0, 1, 0, 2, 1, 3, 3, 4, 2, 4], [0, 1, 0, 2, 1, 3, 3, 4, 4, 2], [0, 1, 0, 2, 1, 3, 2, 4, 3, 4], [0, 1, 0, 2, 1, 3, 2, 4, 4, 3]]
noncomputable def pgC21 : List (List Int) := [[0, 1, 0, 2, 1, 3, 2, 3, 4, 4], [0, 1, 0, 2, 1, 3, 3, 2, 4, 4], [0, 1, 0, 2, 1, 2, 3, 4, 3, 4], [0, 1, 0, 2, 1, 2, 3, 4, 4, 3], [0, 1, 0, 2, 1, 2, 3, 3, 4, 4], [0, 1, 0, 2, 2, 1, 3, 4, 3, 4], [0, 1, 0, 2, 2, 1, 3, 4, 4, 3], [0, 1, 0, 2, 2, 1, 3, 3, 4, 4], [0, 1, 0, 1, 2, 3, 4, 2, 3, 4], [0, 1, 0, 1, 2, 3, 4, 4, 3, 2], [0, 1, 0, 1, 2, 3, 3, 4, 2, 4], [0, 1, 0, 1, 2, 3, 3, 4, 4, 2]]
noncomputable def pgC22 : List (List Int) := [[0, 1, 0, 1, 2, 3, 2, 4, 3, 4], [0, 1, 0, 1, 2, 3, 2, 4, 4, 3], [0, 1, 0, 1, 2, 3, 2, 3, 4, 4], [0, 1, 0, 1, 2, 3, 3, 2, 4, 4], [0, 1, 0, 1, 2, 2, 3, 4, 3, 4], [0, 1, 0, 1, 2, 2, 3, 4, 4, 3], [0, 1, 0, 1, 2, 2, 3, 3, 4, 4], [0, 1, 1, 0, 2, 3, 4, 2, 3, 4], [0, 1, 1, 0, 2, 3, 4, 4, 3, 2], [0, 1, 1, 0, 2, 3, 3, 4, 2, 4], [0, 1, 1, 0, 2, 3, 3, 4, 4, 2], [0, 1, 1, 0, 2, 3, 2, 4, 3, 4]]
noncomputable def pgC23 : List (List Int) := [[0, 1, 1, 0, 2, 3, 2, 4, 4, 3], [0, 1, 1, 0, 2, 3, 2, 3, 4, 4], [0, 1, 1, 0, 2, 3, 3, 2, 4, 4], [0, 1, 1, 0, 2, 2, 3, 4, 3, 4], [0, 1, 1, 0, 2, 2, 3, 4, 4, 3], [0, 1, 1, 0, 2, 2, 3, 3, 4, 4], [0, 0, 1, 2, 3, 4, 1, 2, 3, 4], [0, 0, 1, 2, 3, 4, 4, 3, 2, 1], [0, 0, 1, 2, 3, 3, 4, 1, 2, 4], [0, 0, 1, 2, 3, 3, 4, 4, 2, 1], [0, 0, 1, 2, 3, 2, 4, 1, 3, 4], [0, 0, 1, 2, 3, 2, 4, 4, 3, 1]]
noncomputable def pgC24 : List (List Int) := [[0, 0, 1, 2, 3, 2, 3, 4, 1, 4], [0, 0, 1, 2, 3, 2, 3, 4, 4, 1], [0, 0, 1, 2, 3, 3, 2, 4, 1, 4], [0, 0, 1, 2, 3, 3, 2, 4, 4, 1], [0, 0, 1, 2, 3, 1, 4, 2, 3, 4], [0, 0, 1, 2, 3, 1, 4, 4, 3, 2], [0, 0, 1, 2, 3, 1, 3, 4, 2, 4], [0, 0, 1, 2, 3, 1, 3, 4, 4, 2], [0, 0, 1, 2, 3, 3, 1, 4, 2, 4], [0, 0, 1, 2, 3, 3, 1, 4, 4, 2], [0, 0, 1, 2, 3, 1, 2, 4, 3, 4], [0, 0, 1, 2, 3, 1, 2, 4, 4, 3]]
noncomputable def pgC25 : List (List Int) := [[0, 0, 1, 2, 3, 2, 1, 4, 3, 4], [0, 0, 1, 2, 3, 2, 1, 4, 4, 3], [0, 0, 1, 2, 3, 1, 2, 3, 4, 4], [0, 0, 1, 2, 3, 3, 2, 1, 4, 4], [0, 0, 1, 2, 2, 3, 4, 1, 3, 4], [0, 0, 1, 2, 2, 3, 4, 4, 3, 1], [0, 0, 1, 2, 2, 3, 3, 4, 1, 4], [0, 0, 1, 2, 2, 3, 3, 4, 4, 1], [0, 0, 1, 2, 2, 3, 1, 4, 3, 4], [0, 0, 1, 2, 2, 3, 1, 4, 4, 3], [0, 0, 1, 2, 2, 3, 1, 3, 4, 4], [0, 0, 1, 2, 2, 3, 3, 1, 4, 4]]
noncomputable def pgC26 : List (List Int) := [[0, 0, 1, 2, 1, 3, 4, 2, 3, 4], [0, 0, 1, 2, 1, 3, 4, 4, 3, 2], [0, 0, 1, 2, 1, 3, 3, 4, 2, 4], [0, 0, 1, 2, 1, 3, 3, 4, 4, 2], [0, 0, 1, 2, 1, 3, 2, 4, 3, 4], [0, 0, 1, 2, 1, 3, 2, 4, 4, 3], [0, 0, 1, 2, 1, 3, 2, 3, 4, 4], [0, 0, 1, 2, 1, 3, 3, 2, 4, 4], [0, 0, 1, 2, 1, 2, 3, 4, 3, 4], [0, 0, 1, 2, 1, 2, 3, 4, 4, 3], [0, 0, 1, 2, 1, 2, 3, 3, 4, 4], [0, 0, 1, 2, 2, 1, 3, 4, 3, 4]]
noncomputable def pgC27 : List (List Int) := [[0, 0, 1, 2, 2, 1, 3, 4, 4, 3], [0, 0, 1, 2, 2, 1, 3, 3, 4, 4], [0, 0, 1, 1, 2, 3, 4, 2, 3, 4], [0, 0, 1, 1, 2, 3, 4, 4, 3, 2], [0, 0, 1, 1, 2, 3, 3, 4, 2, 4], [0, 0, 1, 1, 2, 3, 3, 4, 4, 2], [0, 0, 1, 1, 2, 3, 2, 4, 3, 4], [0, 0, 1, 1, 2, 3, 2, 4, 4, 3], [0, 0, 1, 1, 2, 3, 2, 3, 4, 4], [0, 0, 1, 1, 2, 3, 3, 2, 4, 4], [0, 0, 1, 1, 2, 2, 3, 4, 3, 4], [0, 0, 1, 1, 2, 2, 3, 4, 4, 3]]
noncomputable def pgC28 : List (List Int) := [[0, 0, 1, 1, 2, 2, 3, 3, 4, 4]]
theorem pages_eq : pagesI = pgC0 ++ (pgC1 ++ (pgC2 ++ (pgC3 ++ (pgC4 ++ (pgC5 ++ (pgC6 ++ (pgC7 ++ (pgC8 ++ (pgC9 ++ (pgC10 ++ (pgC11 ++ (pgC12 ++ (pgC13 ++ (pgC14 ++ (pgC15 ++ (pgC16 ++ (pgC17 ++ (pgC18 ++ (pgC19 ++ (pgC20 ++ (pgC21 ++ (pgC22 ++ (pgC23 ++ (pgC24 ++ (pgC25 ++ (pgC26 ++ (pgC27 ++ (pgC28)))))))))))))))))))))))))))) := by decide +kernel
theorem pg_0 : pgC0.all chkPage = true := by decide +kernel
theorem pg_1 : pgC1.all chkPage = true := by decide +kernel
theorem pg_2 : pgC2.all chkPage = true := by decide +kernel
theorem pg_3 : pgC3.all chkPage = true := by decide +kernel
theorem pg_4 : pgC4.all chkPage = true := by decide +kernel
theorem pg_5 : pgC5.all chkPage = true := by decide +kernel
theorem pg_6 : pgC6.all chkPage = true := by decide +kernel
theorem pg_7 : pgC7.all chkPage = true := by decide +kernel
theorem pg_8 : pgC8.all chkPage = true := by decide +kernel
theorem pg_9 : pgC9.all chkPage = true := by decide +kernel
theorem pg_10 : pgC10.all chkPage = true := by decide +kernel
theorem pg_11 : pgC11.all chkPage = true := by decide +kernel
theorem pg_12 : pgC12.all chkPage = true := by decide +kernel
theorem pg_13 : pgC13.all chkPage = true := by decide +kernel
theorem pg_14 : pgC14.all chkPage = true := by decide +kernel
theorem pg_15 : pgC15.all chkPage = true := by decide +kernel
theorem pg_16 : pgC16.all chkPage = true := by decide +kernel
theorem pg_17 : pgC17.all chkPage = true := by decide +kernel
theorem pg_18 : pgC18.all chkPage = true := by decide +kernel
theorem pg_19 : pgC19.all chkPage = true := by decide +kernel
theorem pg_20 : pgC20.all chkPage = true := by decide +kernel
theorem pg_21 : pgC21.all chkPage = true := by decide +kernel
theorem pg_22 : pgC22.all chkPage = true := by decide +kernel
theorem pg_23 : pgC23.all chkPage = true := by decide +kernel
theorem pg_24 : pgC24.all chkPage = true := by decide +kernel
theorem pg_25 : pgC25.all chkPage = true := by decide +kernel
theorem pg_26 : pgC26.all chkPage = true := by decide +kernel
theorem pg_27 : pgC27.all chkPage = true := by decide +kernel
theorem pg_28 : pgC28.all chkPage = true := by decide +kernel
theorem all_app {α : Type} {f : α → Bool} {a b : List α} (h1 : a.all f = true) (h2 : b.all f = true) : (a ++ b).all f = true := by rw [List.all_append, h1, h2]; rfl
theorem pages_ok : pagesI.all chkPage = true := by
  rw [pages_eq]
  exact all_app pg_0 (all_app pg_1 (all_app pg_2 (all_app pg_3 (all_app pg_4 (all_app pg_5 (all_app pg_6 (all_app pg_7 (all_app pg_8 (all_app pg_9 (all_app pg_10 (all_app pg_11 (all_app pg_12 (all_app pg_13 (all_app pg_14 (all_app pg_15 (all_app pg_16 (all_app pg_17 (all_app pg_18 (all_app pg_19 (all_app pg_20 (all_app pg_21 (all_app pg_22 (all_app pg_23 (all_app pg_24 (all_app pg_25 (all_app pg_26 (all_app pg_27 (pg_28))))))))))))))))))))))))))))
end Mine
end
section
open PySem
set_option maxRecDepth 100000
set_option linter.unusedVariables false
namespace Mine
theorem ds_0 : (([[1, 2, 3, 4, 5], [1, 2, 3, 5, 5], [1, 2, 4, 4, 5], [1, 2, 4, 5, 5]] : List (List Nat)).all fun d => (pays 5).all (chkMost d)) = true := by decide +kernel
theorem ds_1 : (([[1, 2, 5, 4, 5], [1, 2, 5, 5, 5], [1, 3, 3, 4, 5], [1, 3, 3, 5, 5]] : List (List Nat)).all fun d => (pays 5).all (chkMost d)) = true := by decide +kernel
theorem ds_2 : (([[1, 3, 4, 4, 5], [1, 3, 4, 5, 5], [1, 3, 5, 4, 5], [1, 3, 5, 5, 5]] : List (List Nat)).all fun d => (pays 5).all (chkMost d)) = true := by decide +kernel
theorem ds_3 : (([[1, 4, 3, 4, 5], [1, 4, 3, 5, 5], [1, 4, 4, 4, 5], [1, 4, 4, 5, 5]] : List (List Nat)).all fun d => (pays 5).all (chkMost d)) = true := by decide +kernel
theorem ds_4 : (([[1, 4, 5, 4, 5], [1, 4, 5, 5, 5], [1, 5, 3, 4, 5], [1, 5, 3, 5, 5]] : List (List Nat)).all fun d => (pays 5).all (chkMost d)) = true := by decide +kernel
theorem ds_5 : (([[1, 5, 4, 4, 5], [1, 5, 4, 5, 5], [1, 5, 5, 4, 5], [1, 5, 5, 5, 5]] : List (List Nat)).all fun d => (pays 5).all (chkMost d)) = true := by decide +kernel
theorem ds_6 : (([[2, 2, 3, 4, 5], [2, 2, 3, 5, 5], [2, 2, 4, 4, 5], [2, 2, 4, 5, 5]] : List (List Nat)).all fun d => (pays 5).all (chkMost d)) = true := by decide +kernel
theorem ds_7 : (([[2, 2, 5, 4, 5], [2, 2, 5, 5, 5], [2, 3, 3, 4, 5], [2, 3, 3, 5, 5]] : List (List Nat)).all fun d => (pays 5).all (chkMost d)) = true := by decide +kernel
theorem ds_8 : (([[2, 3, 4, 4, 5], [2, 3, 4, 5, 5], [2, 3, 5, 4, 5], [2, 3, 5, 5, 5]] : List (List Nat)).all fun d => (pays 5).all (chkMost d)) = true := by decide +kernel
theorem ds_9 : (([[2, 4, 3, 4, 5], [2, 4, 3, 5, 5], [2, 4, 4, 4, 5], [2, 4, 4, 5, 5]] : List (List Nat)).all fun d => (pays 5).all (chkMost d)) = true := by decide +kernel
theorem ds_10 : (([[2, 4, 5, 4, 5], [2, 4, 5, 5, 5], [2, 5, 3, 4, 5], [2, 5, 3, 5, 5]] : List (List Nat)).all fun d => (pays 5).all (chkMost d)) = true := by decide +kernel
theorem ds_11 : (([[2, 5, 4, 4, 5], [2, 5, 4, 5, 5], [2, 5, 5, 4, 5], [2, 5, 5, 5, 5]] : List (List Nat)).all fun d => (pays 5).all (chkMost d)) = true := by decide +kernel
theorem ds_12 : (([[3, 2, 3, 4, 5], [3, 2, 3, 5, 5], [3, 2, 4, 4, 5], [3, 2, 4, 5, 5]] : List (List Nat)).all fun d => (pays 5).all (chkMost d)) = true := by decide +kernel
theorem ds_13 : (([[3, 2, 5, 4, 5], [3, 2, 5, 5, 5], [3, 3, 3, 4, 5], [3, 3, 3, 5, 5]] : List (List Nat)).all fun d => (pays 5).all (chkMost d)) = true := by decide +kernel
theorem ds_14 : (([[3, 3, 4, 4, 5], [3, 3, 4, 5, 5], [3, 3, 5, 4, 5], [3, 3, 5, 5, 5]] : List (List Nat)).all fun d => (pays 5).all (chkMost d)) = true := by decide +kernel
theorem ds_15 : (([[3, 4, 3, 4, 5], [3, 4, 3, 5, 5], [3, 4, 4, 4, 5], [3, 4, 4, 5, 5]] : List (List Nat)).all fun d => (pays 5).all (chkMost d)) = true := by decide +kernel
theorem ds_16 : (([[3, 4, 5, 4, 5], [3, 4, 5, 5, 5], [3, 5, 3, 4, 5], [3, 5, 3, 5, 5]] : List (List Nat)).all fun d => (pays 5).all (chkMost d)) = true := by decide +kernel
theorem ds_17 : (([[3, 5, 4, 4, 5], [3, 5, 4, 5, 5], [3, 5, 5, 4, 5], [3, 5, 5, 5, 5]] : List (List Nat)).all fun d => (pays 5).all (chkMost d)) = true := by decide +kernel
theorem ds_18 : (([[4, 2, 3, 4, 5], [4, 2, 3, 5, 5], [4, 2, 4, 4, 5], [4, 2, 4, 5, 5]] : List (List Nat)).all fun d => (pays 5).all (chkMost d)) = true := by decide +kernel
theorem ds_19 : (([[4, 2, 5, 4, 5], [4, 2, 5, 5, 5], [4, 3, 3, 4, 5], [4, 3, 3, 5, 5]] : List (List Nat)).all fun d => (pays 5).all (chkMost d)) = true := by decide +kernel
theorem ds_20 : (([[4, 3, 4, 4, 5], [4, 3, 4, 5, 5], [4, 3, 5, 4, 5], [4, 3, 5, 5, 5]] : List (List Nat)).all fun d => (pays 5).all (chkMost d)) = true := by decide +kernel
theorem ds_21 : (([[4, 4, 3, 4, 5], [4, 4, 3, 5, 5], [4, 4, 4, 4, 5], [4, 4, 4, 5, 5]] : List (List Nat)).all fun d => (pays 5).all (chkMost d)) = true := by decide +kernel
theorem ds_22 : (([[4, 4, 5, 4, 5], [4, 4, 5, 5, 5], [4, 5, 3, 4, 5], [4, 5, 3, 5, 5]] : List (List Nat)).all fun d => (pays 5).all (chkMost d)) = true := by decide +kernel
theorem ds_23 : (([[4, 5, 4, 4, 5], [4, 5, 4, 5, 5], [4, 5, 5, 4, 5], [4, 5, 5, 5, 5]] : List (List Nat)).all fun d => (pays 5).all (chkMost d)) = true := by decide +kernel
theorem ds_24 : (([[5, 2, 3, 4, 5], [5, 2, 3, 5, 5], [5, 2, 4, 4, 5], [5, 2, 4, 5, 5]] : List (List Nat)).all fun d => (pays 5).all (chkMost d)) = true := by decide +kernel
theorem ds_25 : (([[5, 2, 5, 4, 5], [5, 2, 5, 5, 5], [5, 3, 3, 4, 5], [5, 3, 3, 5, 5]] : List (List Nat)).all fun d => (pays 5).all (chkMost d)) = true := by decide +kernel
theorem ds_26 : (([[5, 3, 4, 4, 5], [5, 3, 4, 5, 5], [5, 3, 5, 4, 5], [5, 3, 5, 5, 5]] : List (List Nat)).all fun d => (pays 5).all (chkMost d)) = true := by decide +kernel
theorem ds_27 : (([[5, 4, 3, 4, 5], [5, 4, 3, 5, 5], [5, 4, 4, 4, 5], [5, 4, 4, 5, 5]] : List (List Nat)).all fun d => (pays 5).all (chkMost d)) = true := by decide +kernel
theorem ds_28 : (([[5, 4, 5, 4, 5], [5, 4, 5, 5, 5], [5, 5, 3, 4, 5], [5, 5, 3, 5, 5]] : List (List Nat)).all fun d => (pays 5).all (chkMost d)) = true := by decide +kernel
theorem ds_29 : (([[5, 5, 4, 4, 5], [5, 5, 4, 5, 5], [5, 5, 5, 4, 5], [5, 5, 5, 5, 5]] : List (List Nat)).all fun d => (pays 5).all (chkMost d)) = true := by decide +kernel
theorem ds_eq : dsL = ([[1, 2, 3, 4, 5], [1, 2, 3, 5, 5], [1, 2, 4, 4, 5], [1, 2, 4, 5, 5]] : List (List Nat)) ++ (([[1, 2, 5, 4, 5], [1, 2, 5, 5, 5], [1, 3, 3, 4, 5], [1, 3, 3, 5, 5]] : List (List Nat)) ++ (([[1, 3, 4, 4, 5], [1, 3, 4, 5, 5], [1, 3, 5, 4, 5], [1, 3, 5, 5, 5]] : List (List Nat)) ++ (([[1, 4, 3, 4, 5], [1, 4, 3, 5, 5], [1, 4, 4, 4, 5], [1, 4, 4, 5, 5]] : List (List Nat)) ++ (([[1, 4, 5, 4, 5], [1, 4, 5, 5, 5], [1, 5, 3, 4, 5], [1, 5, 3, 5, 5]] : List (List Nat)) ++ (([[1, 5, 4, 4, 5], [1, 5, 4, 5, 5], [1, 5, 5, 4, 5], [1, 5, 5, 5, 5]] : List (List Nat)) ++ (([[2, 2, 3, 4, 5], [2, 2, 3, 5, 5], [2, 2, 4, 4, 5], [2, 2, 4, 5, 5]] : List (List Nat)) ++ (([[2, 2, 5, 4, 5], [2, 2, 5, 5, 5], [2, 3, 3, 4, 5], [2, 3, 3, 5, 5]] : List (List Nat)) ++ (([[2, 3, 4, 4, 5], [2, 3, 4, 5, 5], [2, 3, 5, 4, 5], [2, 3, 5, 5, 5]] : List (List Nat)) ++ (([[2, 4, 3, 4, 5], [2, 4, 3, 5, 5], [2, 4, 4, 4, 5], [2, 4, 4, 5, 5]] : List (List Nat)) ++ (([[2, 4, 5, 4, 5], [2, 4, 5, 5, 5], [2, 5, 3, 4, 5], [2, 5, 3, 5, 5]] : List (List Nat)) ++ (([[2, 5, 4, 4, 5], [2, 5, 4, 5, 5], [2, 5, 5, 4, 5], [2, 5, 5, 5, 5]] : List (List Nat)) ++ (([[3, 2, 3, 4, 5], [3, 2, 3, 5, 5], [3, 2, 4, 4, 5], [3, 2, 4, 5, 5]] : List (List Nat)) ++ (([[3, 2, 5, 4, 5], [3, 2, 5, 5, 5], [3, 3, 3, 4, 5], [3, 3, 3, 5, 5]] : List (List Nat)) ++ (([[3, 3, 4, 4, 5], [3, 3, 4, 5, 5], [3, 3, 5, 4, 5], [3, 3, 5, 5, 5]] : List (List Nat)) ++ (([[3, 4, 3, 4, 5], [3, 4, 3, 5, 5], [3, 4, 4, 4, 5], [3, 4, 4, 5, 5]] : List (List Nat)) ++ (([[3, 4, 5, 4, 5], [3, 4, 5, 5, 5], [3, 5, 3, 4, 5], [3, 5, 3, 5, 5]] : List (List Nat)) ++ (([[3, 5, 4, 4, 5], [3, 5, 4, 5, 5], [3, 5, 5, 4, 5], [3, 5, 5, 5, 5]] : List (List Nat)) ++ (([[4, 2, 3, 4, 5], [4, 2, 3, 5, 5], [4, 2, 4, 4, 5], [4, 2, 4, 5, 5]] : List (List Nat)) ++ (([[4, 2, 5, 4, 5], [4, 2, 5, 5, 5], [4, 3, 3, 4, 5], [4, 3, 3, 5, 5]] : List (List Nat)) ++ (([[4, 3, 4, 4, 5], [4, 3, 4, 5, 5], [4, 3, 5, 4, 5], [4, 3, 5, 5, 5]] : List (List Nat)) ++ (([[4, 4, 3, 4, 5], [4, 4, 3, 5, 5], [4, 4, 4, 4, 5], [4, 4, 4, 5, 5]] : List (List Nat)) ++ (([[4, 4, 5, 4, 5], [4, 4, 5, 5, 5], [4, 5, 3, 4, 5], [4, 5, 3, 5, 5]] : List (List Nat)) ++ (([[4, 5, 4, 4, 5], [4, 5, 4, 5, 5], [4, 5, 5, 4, 5], [4, 5, 5, 5, 5]] : List (List Nat)) ++ (([[5, 2, 3, 4, 5], [5, 2, 3, 5, 5], [5, 2, 4, 4, 5], [5, 2, 4, 5, 5]] : List (List Nat)) ++ (([[5, 2, 5, 4, 5], [5, 2, 5, 5, 5], [5, 3, 3, 4, 5], [5, 3, 3, 5, 5]] : List (List Nat)) ++ (([[5, 3, 4, 4, 5], [5, 3, 4, 5, 5], [5, 3, 5, 4, 5], [5, 3, 5, 5, 5]] : List (List Nat)) ++ (([[5, 4, 3, 4, 5], [5, 4, 3, 5, 5], [5, 4, 4, 4, 5], [5, 4, 4, 5, 5]] : List (List Nat)) ++ (([[5, 4, 5, 4, 5], [5, 4, 5, 5, 5], [5, 5, 3, 4, 5], [5, 5, 3, 5, 5]] : List (List Nat)) ++ (([[5, 5, 4, 4, 5], [5, 5, 4, 5, 5], [5, 5, 5, 4, 5], [5, 5, 5, 5, 5]] : List (List Nat))))))))))))))))))))))))))))))) := by decide +kernel
theorem all_app' {α : Type} {f : α → Bool} {a b : List α} (h1 : a.all f = true) (h2 : b.all f = true) : (a ++ b).all f = true := by rw [List.all_append, h1, h2]; rfl
theorem ds_ok : (dsL.all fun d => (pays 5).all (chkMost d)) = true := by
  rw [ds_eq]
  exact all_app' ds_0 (all_app' ds_1 (all_app' ds_2 (all_app' ds_3 (all_app' ds_4 (all_app' ds_5 (all_app' ds_6 (all_app' ds_7 (all_app' ds_8 (all_app' ds_9 (all_app' ds_10 (all_app' ds_11 (all_app' ds_12 (all_app' ds_13 (all_app' ds_14 (all_app' ds_15 (all_app' ds_16 (all_app' ds_17 (all_app' ds_18 (all_app' ds_19 (all_app' ds_20 (all_app' ds_21 (all_app' ds_22 (all_app' ds_23 (all_app' ds_24 (all_app' ds_25 (all_app' ds_26 (all_app' ds_27 (all_app' ds_28 (ds_29)))))))))))))))))))))))))))))
end Mine
end
section
open PySem
set_option maxRecDepth 100000
set_option linter.unusedVariables false
namespace Mine
noncomputable def hueN (n : Nat) : UInt64 := Float64.div (Float64.ofInt (n : Int)) 4625196817309499392
noncomputable def lN (n : Nat) : UInt64 := Float64.div (Float64.ofInt (n : Int)) 4620693217682128896
noncomputable def sN (n : Nat) : UInt64 := Float64.div (Float64.ofInt (n : Int)) 4616189618054758400
noncomputable def hueA (n c : Nat) : UInt64 := if c = 0 then Float64.add (hueN n) 4599676419421066581 else if c = 1 then hueN n else Float64.sub (hueN n) 4599676419421066581
noncomputable def hm (n c : Nat) : UInt64 := (Float64.divmod (hueA n c) 4607182418800017408).2
noncomputable def keyN (n c : Nat) : Nat := (3 * n + (if c = 0 then 16 else if c = 1 then 0 else 32)) % 48
noncomputable def wayK (key : Nat) : Nat := min ((key + 32) % 48) (48 - (key + 32) % 48)
noncomputable def mulK (key : Nat) : Int := 4 - (min (wayK key - 8) 8 : Nat)
noncomputable def brF (h : UInt64) : Nat := if Float64.cmp h 4595172819793696085 == some .lt then 0 else if Float64.cmp h 4602678819172646912 == some .lt then 1 else if Float64.cmp h 4604180019048437077 == some .lt then 2 else 3
noncomputable def linU (m1 m2 h : UInt64) : UInt64 := Float64.add m1 (Float64.mul (Float64.mul (Float64.sub m2 m1) h) 4618441417868443648)
noncomputable def linD (m1 m2 h : UInt64) : UInt64 := Float64.add m1 (Float64.mul (Float64.mul (Float64.sub m2 m1) (Float64.sub 4604180019048437077 h)) 4618441417868443648)
noncomputable def m2N (l s : Nat) : UInt64 := if Float64.cmp (lN l) 4602678819172646912 == some .lt || Float64.cmp (lN l) 4602678819172646912 == some .eq then Float64.mul (lN l) (Float64.add 4607182418800017408 (sN s)) else Float64.sub (Float64.add (lN l) (sN s)) (Float64.mul (lN l) (sN s))
noncomputable def m1N (l s : Nat) : UInt64 := Float64.sub (Float64.mul 4611686018427387904 (lN l)) (m2N l s)
noncomputable def partI (l s : Nat) (k : Int) : Int := 16 * l + (min l (8 - l) : Nat) * s * k
noncomputable def quantI (k : Int) : UInt64 := Float64.div (Float64.ofInt k) 4638707616191610880
noncomputable def chk (u : UInt64) (part : Int) : Bool :=
  Float64.cmp (Float64.mul (Float64.abs (Float64.sub (Float64.mul u 4638707616191610880) (Float64.ofInt part))) 4697254411347427328) 4607182418800017408 == some .lt &&
  Float64.isFinite (Float64.add (Float64.mul u 4638707616191610880) 4602678819172646912) &&
  truncI (Float64.add (Float64.mul u 4638707616191610880) 4602678819172646912) == part
noncomputable def rgbChk (m l s : Nat) : Bool :=
  let a := quantI (partI l s (mulK (keyN m 0)))
  let b := quantI (partI l s (mulK (keyN m 1)))
  let c := quantI (partI l s (mulK (keyN m 2)))
  rgbOk a b c && rgbF a b c == [if s = 0 then 0 else hueN m, lN l, sN s]
end Mine
end
section
open PySem
set_option maxRecDepth 100000
set_option linter.unusedVariables false
namespace Mine
noncomputable def hueT : List UInt64 := [4599676419421066581, 0, 4604180019048437078, 4600802319327909205, 4589168020290535424, 4604742969001858390, 4601928219234751829, 4593671619917905920, 4605305918955279702, 4602866469157120682, 4595923419731591168, 4605868868908701014, 4603429419110541994, 4598175219545276416, 4606431818862122326, 4603992369063963306, 4599301119452119040, 4606994768815543638, 4604555319017384618, 4600427019358961664, 4586165620538955096, 4605118268970805930, 4601552919265804288, 4592170420042115756, 4605681218924227242, 4602678819172646912, 4595172819793696086, 4606244168877648554, 4603241769126068224, 4597424619607381334, 4606807118831069866, 4603804719079489536, 4598925819483171499, 4581662020911584576, 4604367669032910848, 4600051719390014123, 4590669220166325584, 4604930618986332160, 4601177619296856747, 4594422219855801000, 4605493568939753472, 4602303519203699371, 4596674019669486248, 4606056518893174784, 4603054119141594454, 4598550519514223956, 4606619468846596096, 4603617069095015766, 4599676419421066580, 4600802319327909204, 4601928219234751828, 4586165620538955104, 4592170420042115760, 4595172819793696088, 4597424619607381336, 4598925819483171500, 4581662020911584640, 4600051719390014124, 4590669220166325600, 4601177619296856748, 4594422219855801008, 4602303519203699372, 4596674019669486256, 4598550519514223960, 4599676419421066584, 4600802319327909208, 4601928219234751832, 4602866469157120684, 4603429419110541996, 4603992369063963308, 4604555319017384620, 4586165620538955072, 4605118268970805932, 4592170420042115744, 4605681218924227244, 4595172819793696080, 4606244168877648556, 4597424619607381328, 4606807118831069868, 4598925819483171496, 4600051719390014120, 4601177619296856744, 4602303519203699368, 4603054119141594452]
noncomputable def keyT : List Nat := [16, 0, 32, 19, 3, 35, 22, 6, 38, 25, 9, 41, 28, 12, 44, 31, 15, 47, 34, 18, 2, 37, 21, 5, 40, 24, 8, 43, 27, 11, 46, 30, 14, 1, 33, 17, 4, 36, 20, 7, 39, 23, 10, 42, 26, 13, 45, 29, 16, 19, 22, 2, 5, 8, 11, 14, 1, 17, 4, 20, 7, 23, 10, 13, 16, 19, 22, 25, 28, 31, 34, 2, 37, 5, 40, 8, 43, 11, 46, 14, 17, 20, 23, 26]
noncomputable def idxT : List Nat := [0, 1, 2, 3, 4, 5, 6, 7, 8, 9, 10, 11, 12, 13, 14, 15, 16, 17, 18, 19, 20, 21, 22, 23, 24, 25, 26, 27, 28, 29, 30, 31, 32, 33, 34, 35, 36, 37, 38, 39, 40, 41, 42, 43, 44, 45, 46, 47, 48, 1, 2, 49, 4, 5, 50, 7, 8, 9, 10, 11, 12, 13, 14, 15, 16, 17, 18, 19, 51, 21, 22, 52, 24, 25, 53, 27, 28, 54, 30, 31, 55, 56, 34, 57, 58, 37, 59, 60, 40, 61, 62, 43, 44, 63, 46, 47, 64, 1, 2, 65, 4, 5, 66, 7, 8, 67, 10, 11, 68, 13, 14, 69, 16, 17, 70, 19, 71, 72, 22, 73, 74, 25, 75, 76, 28, 77, 78, 31, 79, 56, 34, 80, 58, 37, 81, 60, 40, 82, 62, 43, 83]
noncomputable def m1T : List UInt64 := [4591419820104220672, 4589168020290535424, 4584664420663164928, 0, 4595923419731591168, 4593671619917905920, 4589168020290535424, 0, 4598738169498697728, 4595923419731591168, 4591419820104220672, 0, 4600427019358961664, 4598175219545276416, 4593671619917905920, 0, 4602960294149357568, 4601552919265804288, 4599864069405540352, 4598175219545276416, 4604367669032910848, 4603804719079489536, 4603241769126068224, 4602678819172646912, 4605775043916464128, 4605493568939753472, 4605212093963042816, 4604930618986332160]
noncomputable def m2T : List UInt64 := [4594797519824748544, 4595923419731591168, 4597049319638433792, 4598175219545276416, 4599301119452119040, 4600427019358961664, 4601552919265804288, 4602678819172646912, 4602115869219225600, 4603241769126068224, 4604086194056200192, 4604930618986332160, 4603804719079489536, 4604930618986332160, 4606056518893174784, 4607182418800017408, 4604649144009621504, 4605493568939753472, 4606337993869885440, 4607182418800017408, 4605493568939753472, 4606056518893174784, 4606619468846596096, 4607182418800017408, 4606337993869885440, 4606619468846596096, 4606900943823306752, 4607182418800017408]
noncomputable def linL : List (UInt64 × Nat × Bool) := [(0, 0, true), (4589168020290535424, 3, true), (4593671619917905920, 6, true), (4602866469157120682, 25, false), (4603429419110541994, 28, false), (4603992369063963306, 31, false), (4586165620538955096, 2, true), (4592170420042115756, 5, true), (4602678819172646912, 24, false), (4603241769126068224, 27, false), (4603804719079489536, 30, false), (4581662020911584576, 1, true), (4590669220166325584, 4, true), (4594422219855801000, 7, true), (4603054119141594454, 26, false), (4603617069095015766, 29, false), (4586165620538955104, 2, true), (4592170420042115760, 5, true), (4581662020911584640, 1, true), (4590669220166325600, 4, true), (4594422219855801008, 7, true), (4602866469157120684, 25, false), (4603429419110541996, 28, false), (4603992369063963308, 31, false), (4586165620538955072, 2, true), (4592170420042115744, 5, true), (4595172819793696080, 8, true), (4603054119141594452, 26, false)]
noncomputable def linV (q : Nat) (t : UInt64 × Nat × Bool) : UInt64 := if t.2.2 then linU (m1T.getD q 0) (m2T.getD q 0) t.1 else linD (m1T.getD q 0) (m2T.getD q 0) t.1
noncomputable def linOk (t : UInt64 × Nat × Bool) : Bool := (List.range 28).all fun q => chk (linV q t) (partI (q / 4 + 1) (q % 4 + 1) (mulK t.2.1))
theorem s_hue : ((List.range 47).all fun n => (List.range 3).all fun c => hm n c == hueT.getD (idxT.getD (3 * n + c) 0) 0 && keyN n c == keyT.getD (idxT.getD (3 * n + c) 0) 0 && Nat.blt (idxT.getD (3 * n + c) 0) 84) = true := by decide +kernel
theorem s_m : ((List.range 28).all fun q => m1N (q / 4 + 1) (q % 4 + 1) == m1T.getD q 0 && m2N (q / 4 + 1) (q % 4 + 1) == m2T.getD q 0) = true := by decide +kernel
theorem s_br : ((List.range 84).all fun i => (brF (hueT.getD i 0) == 1 && mulK (keyT.getD i 0) == 4) || (brF (hueT.getD i 0) == 3 && mulK (keyT.getD i 0) == -4) || (brF (hueT.getD i 0) == 0 && linL.contains (hueT.getD i 0, keyT.getD i 0, true)) || (brF (hueT.getD i 0) == 2 && linL.contains (hueT.getD i 0, keyT.getD i 0, false))) = true := by decide +kernel
theorem s_flat : ((List.range 28).all fun q => chk (m2T.getD q 0) (partI (q / 4 + 1) (q % 4 + 1) 4) && chk (m1T.getD q 0) (partI (q / 4 + 1) (q % 4 + 1) (-4))) = true := by decide +kernel
theorem s_grey : ((List.range 7).all fun q => chk (lN (q + 1)) (partI (q + 1) 0 0)) = true := by decide +kernel
theorem s_sgn : (Float64.cmp (sN 0) 0 == some .eq && [1, 2, 3, 4].all (fun s => !(Float64.cmp (sN s) 0 == some .eq)) && [1, 2, 3, 4].all (fun s => Float64.cmp (sN s) 0 == some .gt) && !(Float64.cmp (sN 0) 0 == some .gt) && sN 0 == 0) = true := by decide +kernel
theorem s_int : ((List.range 16).all fun m => truncI (Float64.mul (hueN m) 4625196817309499392) == (m : Int) && Float64.isFinite (Float64.mul (hueN m) 4625196817309499392) && Float64.cmp (hueN m) (hueN m) == some .eq) = true := by decide +kernel
theorem s_ls : ((List.range 8).all fun l => Float64.cmp (lN l) (lN l) == some .eq && Float64.cmp (sN l) (sN l) == some .eq) = true := by decide +kernel
theorem s_zero : (Float64.cmp 0 0 == some .eq && Float64.isFinite (Float64.mul 0 4625196817309499392)) = true := by decide +kernel
theorem lin_0 : linOk (0, 0, true) = true := by decide +kernel
theorem lin_1 : linOk (4589168020290535424, 3, true) = true := by decide +kernel
theorem lin_2 : linOk (4593671619917905920, 6, true) = true := by decide +kernel
theorem lin_3 : linOk (4602866469157120682, 25, false) = true := by decide +kernel
theorem lin_4 : linOk (4603429419110541994, 28, false) = true := by decide +kernel
theorem lin_5 : linOk (4603992369063963306, 31, false) = true := by decide +kernel
theorem lin_6 : linOk (4586165620538955096, 2, true) = true := by decide +kernel
theorem lin_7 : linOk (4592170420042115756, 5, true) = true := by decide +kernel
theorem lin_8 : linOk (4602678819172646912, 24, false) = true := by decide +kernel
theorem lin_9 : linOk (4603241769126068224, 27, false) = true := by decide +kernel
theorem lin_10 : linOk (4603804719079489536, 30, false) = true := by decide +kernel
theorem lin_11 : linOk (4581662020911584576, 1, true) = true := by decide +kernel
theorem lin_12 : linOk (4590669220166325584, 4, true) = true := by decide +kernel
theorem lin_13 : linOk (4594422219855801000, 7, true) = true := by decide +kernel
theorem lin_14 : linOk (4603054119141594454, 26, false) = true := by decide +kernel
theorem lin_15 : linOk (4603617069095015766, 29, false) = true := by decide +kernel
theorem lin_16 : linOk (4586165620538955104, 2, true) = true := by decide +kernel
theorem lin_17 : linOk (4592170420042115760, 5, true) = true := by decide +kernel
theorem lin_18 : linOk (4581662020911584640, 1, true) = true := by decide +kernel
theorem lin_19 : linOk (4590669220166325600, 4, true) = true := by decide +kernel
theorem lin_20 : linOk (4594422219855801008, 7, true) = true := by decide +kernel
theorem lin_21 : linOk (4602866469157120684, 25, false) = true := by decide +kernel
theorem lin_22 : linOk (4603429419110541996, 28, false) = true := by decide +kernel
theorem lin_23 : linOk (4603992369063963308, 31, false) = true := by decide +kernel
theorem lin_24 : linOk (4586165620538955072, 2, true) = true := by decide +kernel
theorem lin_25 : linOk (4592170420042115744, 5, true) = true := by decide +kernel
theorem lin_26 : linOk (4595172819793696080, 8, true) = true := by decide +kernel
theorem lin_27 : linOk (4603054119141594452, 26, false) = true := by decide +kernel
theorem lin_all : ∀ t ∈ linL, linOk t = true := List.forall_mem_cons.mpr ⟨lin_0, List.forall_mem_cons.mpr ⟨lin_1, List.forall_mem_cons.mpr ⟨lin_2, List.forall_mem_cons.mpr ⟨lin_3, List.forall_mem_cons.mpr ⟨lin_4, List.forall_mem_cons.mpr ⟨lin_5, List.forall_mem_cons.mpr ⟨lin_6, List.forall_mem_cons.mpr ⟨lin_7, List.forall_mem_cons.mpr ⟨lin_8, List.forall_mem_cons.mpr ⟨lin_9, List.forall_mem_cons.mpr ⟨lin_10, List.forall_mem_cons.mpr ⟨lin_11, List.forall_mem_cons.mpr ⟨lin_12, List.forall_mem_cons.mpr ⟨lin_13, List.forall_mem_cons.mpr ⟨lin_14, List.forall_mem_cons.mpr ⟨lin_15, List.forall_mem_cons.mpr ⟨lin_16, List.forall_mem_cons.mpr ⟨lin_17, List.forall_mem_cons.mpr ⟨lin_18, List.forall_mem_cons.mpr ⟨lin_19, List.forall_mem_cons.mpr ⟨lin_20, List.forall_mem_cons.mpr ⟨lin_21, List.forall_mem_cons.mpr ⟨lin_22, List.forall_mem_cons.mpr ⟨lin_23, List.forall_mem_cons.mpr ⟨lin_24, List.forall_mem_cons.mpr ⟨lin_25, List.forall_mem_cons.mpr ⟨lin_26, List.forall_mem_cons.mpr ⟨lin_27, fun _ h => nomatch h⟩⟩⟩⟩⟩⟩⟩⟩⟩⟩⟩⟩⟩⟩⟩⟩⟩⟩⟩⟩⟩⟩⟩⟩⟩⟩⟩⟩
noncomputable def rgbAll (m : Nat) : Bool := (List.range 28).all fun q => rgbChk m (q / 4 + 1) (q % 4 + 1)
theorem rgb_0 : rgbAll 0 = true := by decide +kernel
theorem rgb_1 : rgbAll 1 = true := by decide +kernel
theorem rgb_2 : rgbAll 2 = true := by decide +kernel
theorem rgb_3 : rgbAll 3 = true := by decide +kernel
theorem rgb_4 : rgbAll 4 = true := by decide +kernel
theorem rgb_5 : rgbAll 5 = true := by decide +kernel
theorem rgb_6 : rgbAll 6 = true := by decide +kernel
theorem rgb_7 : rgbAll 7 = true := by decide +kernel
theorem rgb_8 : rgbAll 8 = true := by decide +kernel
theorem rgb_9 : rgbAll 9 = true := by decide +kernel
theorem rgb_10 : rgbAll 10 = true := by decide +kernel
theorem rgb_11 : rgbAll 11 = true := by decide +kernel
theorem rgb_12 : rgbAll 12 = true := by decide +kernel
theorem rgb_13 : rgbAll 13 = true := by decide +kernel
theorem rgb_14 : rgbAll 14 = true := by decide +kernel
theorem rgb_15 : rgbAll 15 = true := by decide +kernel
theorem rgb_grey : ((List.range 7).all fun q => rgbChk 0 (q + 1) 0) = true := by decide +kernel
theorem rgb_all : ∀ m, m < 16 → rgbAll m = true
  | 0, _ => rgb_0
  | 1, _ => rgb_1
  | 2, _ => rgb_2
  | 3, _ => rgb_3
  | 4, _ => rgb_4
  | 5, _ => rgb_5
  | 6, _ => rgb_6
  | 7, _ => rgb_7
  | 8, _ => rgb_8
  | 9, _ => rgb_9
  | 10, _ => rgb_10
  | 11, _ => rgb_11
  | 12, _ => rgb_12
  | 13, _ => rgb_13
  | 14, _ => rgb_14
  | 15, _ => rgb_15
  | m + 16, h => by omega
end Mine
end
section
open PySem PySem.Calls PyProof.Rows
set_option maxRecDepth 100000
set_option linter.unusedVariables false
namespace Mine
theorem all_at {n : Nat} {f : Nat → Bool} (h : (List.range n).all f = true) {i : Nat} (hi : i < n) : f i = true := List.all_eq_true.mp h i (List.mem_range.mpr hi)
theorem vF_br (m1 m2 u : UInt64) : vF m1 m2 u = (if brF (Float64.divmod u 4607182418800017408).2 = 0 then linU m1 m2 (Float64.divmod u 4607182418800017408).2 else if brF (Float64.divmod u 4607182418800017408).2 = 1 then m2 else if brF (Float64.divmod u 4607182418800017408).2 = 2 then linD m1 m2 (Float64.divmod u 4607182418800017408).2 else m1) := by
  unfold vF brF linU linD
  generalize (Float64.divmod u 4607182418800017408).2 = h
  dsimp only
  cases (Float64.cmp h 4595172819793696085 == some .lt) <;> cases (Float64.cmp h 4602678819172646912 == some .lt) <;> cases (Float64.cmp h 4604180019048437077 == some .lt) <;> rfl
theorem qls {l s : Nat} (hl : 1 ≤ l ∧ l ≤ 7) (hs : 1 ≤ s ∧ s ≤ 4) : (4 * (l - 1) + (s - 1)) / 4 + 1 = l ∧ (4 * (l - 1) + (s - 1)) % 4 + 1 = s ∧ 4 * (l - 1) + (s - 1) < 28 := by omega
theorem chan {n c l s : Nat} (hn : n < 47) (hc : c < 3) (hl : 1 ≤ l ∧ l ≤ 7) (hs : 1 ≤ s ∧ s ≤ 4) : chk (vF (m1N l s) (m2N l s) (hueA n c)) (partI l s (mulK (keyN n c))) = true := by
  obtain ⟨q1, q2, q3⟩ := qls hl hs
  generalize 4 * (l - 1) + (s - 1) = q at *
  have h1 := all_at (all_at s_hue hn) hc
  simp only [Bool.and_eq_true, beq_iff_eq] at h1
  obtain ⟨⟨e1, e2⟩, e3⟩ := h1
  have e3 : idxT.getD (3 * n + c) 0 < 84 := by rw [Nat.blt_eq] at e3; exact e3
  have h2 := all_at s_m q3
  simp only [Bool.and_eq_true, beq_iff_eq] at h2
  rw [q1, q2] at h2
  rw [h2.1, h2.2, vF_br]
  have hh : (Float64.divmod (hueA n c) 4607182418800017408).2 = hm n c := rfl
  rw [hh, e1, e2]
  have h3 := all_at s_br e3
  generalize idxT.getD (3 * n + c) 0 = i at *
  have h4 := all_at s_flat q3
  simp only [Bool.and_eq_true] at h4
  rw [q1, q2] at h4
  have hlin : ∀ b, linL.contains (hueT.getD i 0, keyT.getD i 0, b) = true → chk (linV q (hueT.getD i 0, keyT.getD i 0, b)) (partI l s (mulK (keyT.getD i 0))) = true := fun b hb => by
    have := all_at (lin_all _ (List.contains_iff_mem.mp hb)) q3
    rw [q1, q2] at this
    exact this
  simp only [Bool.or_eq_true, Bool.and_eq_true, beq_iff_eq] at h3
  rcases h3 with ((⟨b, k⟩ | ⟨b, k⟩) | ⟨b, k⟩) | ⟨b, k⟩
  · rw [b, k]
    exact h4.1
  · rw [b, k]
    exact h4.2
  · rw [b]
    exact hlin true k
  · rw [b]
    exact hlin false k
theorem hls_some (n l s : Nat) (hs : 1 ≤ s ∧ s ≤ 4) : hlsF (hueN n) (lN l) (sN s) = [vF (m1N l s) (m2N l s) (hueA n 0), vF (m1N l s) (m2N l s) (hueA n 1), vF (m1N l s) (m2N l s) (hueA n 2)] := by
  have h := s_sgn
  simp only [Bool.and_eq_true] at h
  have h1 := List.all_eq_true.mp h.1.1.1.2 s (by simp only [List.mem_cons, List.not_mem_nil, or_false]; omega)
  have h2 : (Float64.cmp (sN s) 0 == some .eq) = false := by simpa using h1
  unfold hlsF
  rw [h2, if_neg Bool.false_ne_true]
  rfl
theorem hls_grey (n l : Nat) : hlsF (hueN n) (lN l) (sN 0) = [lN l, lN l, lN l] := by
  have h := s_sgn
  simp only [Bool.and_eq_true] at h
  unfold hlsF
  rw [h.1.1.1.1, if_pos rfl]
noncomputable abbrev partC (n l s c : Nat) : Int := partI l s (mulK (keyN n c))
theorem made_ok {n l s : Nat} (hn : n < 47) (hl : 1 ≤ l ∧ l ≤ 7) (hs : s ≤ 4) : ∀ c, c < 3 → chk ((hlsF (hueN n) (lN l) (sN s)).getD c 0) (partC n l s c) = true := by
  intro c hc
  by_cases h0 : s = 0
  · subst h0
    rw [hls_grey]
    have h := all_at s_grey (i := l - 1) (by omega)
    rw [show l - 1 + 1 = l by omega] at h
    have e : ∀ k, partI l 0 k = partI l 0 0 := fun k => by unfold partI; simp
    unfold partC
    rw [e]
    match c, hc with
    | 0, _ => exact h
    | 1, _ => exact h
    | 2, _ => exact h
  · have hs' : 1 ≤ s ∧ s ≤ 4 := by omega
    rw [hls_some n l s hs']
    have := chan hn hc hl hs'
    match c, hc with
    | 0, _ => exact this
    | 1, _ => exact this
    | 2, _ => exact this
theorem key_mod (n c : Nat) : keyN n c = keyN (n % 16) c := by unfold keyN; omega
theorem inf_small {i : Int} (h : i.natAbs ≤ 1000) : Float64.isInf (Float64.ofInt i) = false := by
  unfold Float64.ofInt
  refine PySem.Flt.notInf_ofFrac (by decide) ?_
  have h1 : 2 * (i.natAbs * 2 ^ 1074) ≤ 2 * (1000 * 2 ^ 1074) := Nat.mul_le_mul_left _ (Nat.mul_le_mul_right _ h)
  exact Nat.lt_of_le_of_lt h1 (by decide +kernel)
theorem part_bound {n l s c : Nat} (hl : 1 ≤ l ∧ l ≤ 7) (hs : s ≤ 4) : (partC n l s c).natAbs ≤ 1000 := by
  unfold partC partI mulK
  have h1 : (min (wayK (keyN n c) - 8) 8 : Nat) ≤ 8 := Nat.min_le_right _ _
  generalize (min (wayK (keyN n c) - 8) 8 : Nat) = k at *
  have h2 : (min l (8 - l) : Nat) ≤ 4 := by omega
  generalize (min l (8 - l) : Nat) = a at *
  have h3 : a * s ≤ 4 * 4 := Nat.mul_le_mul h2 hs
  have h4 : ((a : Int) * (s : Int) * (4 - (k : Int))).natAbs ≤ 16 * 4 := by
    rw [Int.natAbs_mul]
    refine Nat.mul_le_mul ?_ (by omega)
    rw [Int.natAbs_mul]; exact h3
  have h5 := Int.natAbs_add_le (16 * (l : Int)) ((a : Int) * (s : Int) * (4 - (k : Int)))
  omega
theorem rgb_ok {n l s : Nat} (hl : 1 ≤ l ∧ l ≤ 7) (hs : s ≤ 4) : rgbOk (quantI (partC n l s 0)) (quantI (partC n l s 1)) (quantI (partC n l s 2)) = true ∧ rgbF (quantI (partC n l s 0)) (quantI (partC n l s 1)) (quantI (partC n l s 2)) = [if s = 0 then 0 else hueN (n % 16), lN l, sN s] := by
  have key : ∀ m, rgbChk m l s = true → (s = 0 ∨ m = n % 16) → rgbOk (quantI (partC n l s 0)) (quantI (partC n l s 1)) (quantI (partC n l s 2)) = true ∧ rgbF (quantI (partC n l s 0)) (quantI (partC n l s 1)) (quantI (partC n l s 2)) = [if s = 0 then 0 else hueN (n % 16), lN l, sN s] := fun m h hm => by
    have e : ∀ c, partC n l s c = partI l s (mulK (keyN m c)) := fun c => by
      rcases hm with q | q
      · subst q; unfold partC partI; simp
      · unfold partC; rw [key_mod, q]
    rw [e, e, e]
    unfold rgbChk at h
    dsimp only at h
    obtain ⟨h1, h2⟩ := Bool.and_eq_true_iff.mp h
    refine ⟨h1, (eq_of_beq h2).trans ?_⟩
    rcases hm with q | q
    · rw [if_pos q, if_pos q]
    · rw [q]
  by_cases h0 : s = 0
  · subst h0
    have h := all_at rgb_grey (i := l - 1) (by omega)
    rw [show l - 1 + 1 = l by omega] at h
    exact key 0 h (.inl rfl)
  · obtain ⟨q1, q2, q3⟩ := qls hl (s := s) (by omega)
    have h := all_at (rgb_all (n % 16) (Nat.mod_lt _ (by omega))) q3
    rw [q1, q2] at h
    exact key _ h (.inr rfl)
theorem quant_of {u : UInt64} {k : Int} (h : chk u k = true) : quantF u = quantI k := by
  unfold chk at h
  simp only [Bool.and_eq_true, beq_iff_eq] at h
  unfold quantF quantI
  rw [h.2]
end Mine
end
section
open PySem PySem.Calls PyProof.Rows
set_option maxRecDepth 100000
set_option linter.unusedVariables false
namespace Mine
theorem filter_subs (f : Int → Bool) : ∀ l : List Int, l.filter f ∈ subsI l
  | [] => .head _
  | a :: l => by
    rw [subsI, List.filter_cons]
    cases f a with
    | false => exact List.mem_append_left _ (filter_subs f l)
    | true => exact List.mem_append_right _ (List.mem_map_of_mem (filter_subs f l))
theorem rev_small {α : Type} {l : List α} (h : l.length < 2) : l.reverse = l := by
  match l, h with
  | [], _ => rfl
  | [a], _ => rfl
theorem step_mem (c k : Int) (st : List Int × List Int) : stepF c k st ∈ nextI k st := by
  unfold nextI
  refine List.mem_flatMap.mpr ⟨goingF c st.2, filter_subs _ _, ?_⟩
  unfold stepF
  dsimp only
  by_cases h : (goingF c st.2).length < 2
  · rw [if_pos h, rev_small h]
    split <;> exact .head _
  · rw [if_neg h]
    split
    · exact .tail _ (.head _)
    · exact .head _
theorem state_mem (cells : List Int) : ∀ i, pageSt cells i ∈ statesI i
  | 0 => .head _
  | i + 1 => List.mem_flatMap.mpr ⟨_, state_mem cells i, step_mem _ _ _⟩
theorem page_mem (cells : List Int) : pageF cells ∈ pagesI := by
  unfold pagesI
  refine List.mem_flatMap.mpr ⟨_, state_mem cells 5, ?_⟩
  unfold pageF endsI
  by_cases h : (pageSt cells 5).2.length < 2
  · rw [if_pos h, rev_small h]
    split <;> exact .head _
  · rw [if_neg h]
    split
    · exact .tail _ (.head _)
    · exact .head _
theorem page_chk (cells : List Int) : chkPage (pageF cells) = true := List.all_eq_true.mp pages_ok _ (page_mem cells)
structure PageOk (p : List Int) : Prop where
  len : p.length = 10
  has : ∀ x : Nat, x < 5 → (x : Int) ∈ p
  lo : ∀ x ∈ p, 0 ≤ x ∧ x < 5
  ins : ∀ i, (insSt p i).length ≤ 5
  ds : dOf p ∈ dsL
  cnt0 : cntP p 0 = 0
  cnt10 : cntP p 10 = 5
  walk : ∀ i, i < 10 → if p.getD i 0 ∈ insSt p i then cntP p (i + 1) = cntP p i else p.getD i 0 = (cntP p i : Int) ∧ cntP p (i + 1) = cntP p i + 1 ∧ insSt p i = (metL (dOf p) (cntP p i)).map fun j : Nat => (j : Int)
  met : ∀ x j : Nat, x < 5 → j < x → (decide ((j : Int) ∈ stayF p (x : Int)) || decide ((x : Int) ∈ stayF p (j : Int))) = decide (x < (dOf p).getD j 0)
  said : chkSaid p = true
theorem pageOk {p : List Int} (h : chkPage p = true) : PageOk p := by
  unfold chkPage at h
  simp only [Bool.and_eq_true] at h
  obtain ⟨⟨⟨hb, hw⟩, hm⟩, hs⟩ := h
  unfold chkBase at hb
  simp only [Bool.and_eq_true, beq_iff_eq] at hb
  obtain ⟨⟨⟨b1, b2⟩, b3⟩, b4⟩ := hb
  unfold chkWalk at hw
  simp only [Bool.and_eq_true, beq_iff_eq] at hw
  obtain ⟨⟨⟨w1, w2⟩, w3⟩, w4⟩ := hw
  refine ⟨b1, fun x hx => ?_, fun x hx => ?_, fun i => ?_, List.contains_iff_mem.mp w1, w2, w3, fun i hi => ?_, fun x j hx hj => ?_, hs⟩
  · exact of_decide_eq_true (List.all_eq_true.mp b2 x (List.mem_range.mpr hx))
  · have := List.all_eq_true.mp b3 x hx
    simp only [Bool.and_eq_true, decide_eq_true_eq] at this
    exact this
  · by_cases h : i < 11
    · exact Nat.ble_eq.mp (List.all_eq_true.mp b4 i (List.mem_range.mpr h))
    · have e : insSt p i = insSt p 10 := by
        unfold insSt
        rw [List.take_of_length_le (by omega), List.take_of_length_le (by omega)]
      rw [e]
      exact Nat.ble_eq.mp (List.all_eq_true.mp b4 10 (List.mem_range.mpr (by omega)))
  · have := List.all_eq_true.mp w4 i (List.mem_range.mpr hi)
    split at this
    · rename_i q
      rw [if_pos q]
      exact eq_of_beq this
    · rename_i q
      rw [if_neg q]
      simp only [Bool.and_eq_true, beq_iff_eq] at this
      exact ⟨this.1.1, this.1.2, this.2⟩
  · have := List.all_eq_true.mp (List.all_eq_true.mp hm x (List.mem_range.mpr hx)) j (List.mem_range.mpr hj)
    exact eq_of_beq this
section
variable {d : List Nat} {pay : List Bool}
theorem roomsL_len : ∀ n, (roomsL d pay n).length = n
  | 0 => rfl
  | n + 1 => by rw [roomsL, List.length_append, roomsL_len n]; rfl
theorem roomsL_pre : ∀ {m n : Nat}, m ≤ n → roomsL d pay m <+: roomsL d pay n
  | m, 0, h => by rw [Nat.le_zero.mp h]; exact List.prefix_refl _
  | m, n + 1, h => by
    by_cases q : m = n + 1
    · rw [q]; exact List.prefix_refl _
    · exact (roomsL_pre (by omega : m ≤ n)).trans (by rw [roomsL]; exact List.prefix_append _ _)
theorem roomsL_at {m n x : Nat} (h : m ≤ n) (hx : x < m) : (roomsL d pay n).getD x 0 = (roomsL d pay m).getD x 0 := by
  obtain ⟨t, ht⟩ := roomsL_pre (d := d) (pay := pay) h
  rw [← ht, List.getD_eq_getElem?_getD, List.getD_eq_getElem?_getD, List.getElem?_append_left (by rw [roomsL_len]; exact hx)]
theorem roomsL_last (n : Nat) : (roomsL d pay (n + 1)).getD n 0 = leastI (freeF (takenL d pay (roomsL d pay n) n)) := by
  rw [roomsL, List.getD_eq_getElem?_getD, List.getElem?_append_right (by rw [roomsL_len]; exact Nat.le_refl _), roomsL_len, Nat.sub_self]; rfl
theorem met_lt {x j : Nat} (h : j ∈ metL d x) : j < x := List.mem_range.mp (List.mem_filter.mp h).1
theorem met_len (x : Nat) : (metL d x).length ≤ x := by
  unfold metL
  have := List.length_filter_le (fun j => decide (x < d.getD j 0)) (List.range x)
  rwa [List.length_range] at this
theorem taken_len (rs : List Int) (x : Nat) : (takenL d pay rs x).length ≤ x := by
  unfold takenL
  rw [List.length_map]
  exact Nat.le_trans (List.length_filter_le _ _) (met_len x)
theorem free_range {t : List Int} {r : Int} (h : r ∈ freeF t) : 0 ≤ r ∧ r < 6 := by
  unfold freeF at h
  obtain ⟨n, hn, rfl⟩ := List.mem_map.mp h
  have := List.mem_range.mp (List.mem_filter.mp hn).1
  omega
theorem roomsL_range {x n : Nat} (hx : x < n) (hn : n ≤ 5) : 0 ≤ (roomsL d pay n).getD x 0 ∧ (roomsL d pay n).getD x 0 < 6 := by
  rw [roomsL_at (m := x + 1) (by omega) (by omega), roomsL_last]
  have hl := taken_len (d := d) (pay := pay) (roomsL d pay x) x
  exact free_range (leastI_spec _ (free_ne (by omega))).1
end
noncomputable def payOf (shares : List Int) : List Bool := shares.map fun s => decide (0 < s)
theorem pay_at {shares : List Int} (h5 : shares.length = 5) {j : Nat} (hj : j < 5) : (payOf shares).getD j false = decide (0 < shares.getD j 0) := by
  unfold payOf
  rw [List.getD_eq_getElem?_getD, List.getD_eq_getElem?_getD, List.getElem?_map, List.getElem?_eq_getElem (by omega)]; rfl
theorem pays_mem : ∀ (n : Nat) (l : List Bool), l.length = n → l ∈ pays n
  | 0, l, h => by rw [List.length_eq_zero_iff.mp h]; exact .head _
  | n + 1, [], h => by cases h
  | n + 1, a :: l, h => by
    rw [pays]
    refine List.mem_flatMap.mpr ⟨l, pays_mem n l (by simpa using h), ?_⟩
    cases a
    · exact .tail _ (.head _)
    · exact .head _
/-- the walk along the page, against the greedy by guests -/
theorem rooms_inv {p shares : List Int} (ok : PageOk p) (h5 : shares.length = 5) : ∀ i, i ≤ 10 → (roomsSt p shares i).ins = insSt p i ∧ (roomsSt p shares i).rooms.length = 5 ∧ cntP p i ≤ 5 ∧
    (∀ x, x < cntP p i → (roomsSt p shares i).rooms.getD x 0 = (roomsL (dOf p) (payOf shares) 5).getD x 0) ∧ (roomsSt p shares i).most = mostL (dOf p) (payOf shares) (cntP p i)
  | 0, _ => by
    rw [ok.cnt0]
    exact ⟨rfl, rfl, by omega, fun x hx => by omega, rfl⟩
  | i + 1, hi => by
    obtain ⟨e1, e2, e3, e4, e5⟩ := rooms_inv ok h5 i (by omega)
    have hil : i < p.length := by rw [ok.len]; omega
    have hy : p[i]? = some (p.getD i 0) := by rw [List.getD_eq_getElem?_getD, List.getElem?_eq_getElem hil]; rfl
    have hst : roomsSt p shares (i + 1) = roomsStep shares (roomsSt p shares i) (p.getD i 0) := foldl_at hy
    have hin : insSt p (i + 1) = insStep (insSt p i) (p.getD i 0) := foldl_at hy
    have hw := ok.walk i (by omega)
    rw [hst, hin]
    unfold roomsStep insStep
    rw [e1]
    by_cases q : p.getD i 0 ∈ insSt p i
    · rw [if_pos q] at hw
      rw [if_pos q, if_pos q, hw]
      exact ⟨rfl, e2, e3, e4, e5⟩
    · rw [if_neg q] at hw
      obtain ⟨w1, w2, w3⟩ := hw
      rw [if_neg q, if_neg q, w2]
      have hmem : p.getD i 0 ∈ p := List.mem_of_getElem? hy
      have hlt := ok.lo _ hmem
      rw [w1] at hlt ⊢
      have hn : cntP p i < 5 := by omega
      rw [w3]
      generalize cntP p i = n at *
      have hpj : ∀ j ∈ metL (dOf p) n, decide (0 < shares.getD (j : Int).toNat 0) = (payOf shares).getD j false := fun j hj => by
        rw [Int.toNat_natCast, pay_at h5 (by have := met_lt hj; omega)]
      have ht : takenF shares (roomsSt p shares i).rooms ((metL (dOf p) n).map fun j : Nat => (j : Int)) = takenL (dOf p) (payOf shares) (roomsL (dOf p) (payOf shares) n) n := by
        unfold takenF takenL
        rw [List.filter_map, List.map_map]
        have ef : (metL (dOf p) n).filter ((fun j : Int => decide (0 < shares.getD j.toNat 0)) ∘ fun j : Nat => (j : Int)) = (metL (dOf p) n).filter fun j => (payOf shares).getD j false := List.filter_congr hpj
        rw [ef]
        refine List.map_congr_left fun j hj => ?_
        have hjn := met_lt (List.mem_filter.mp hj).1
        show (roomsSt p shares i).rooms.getD (j : Int).toNat 0 = _
        rw [Int.toNat_natCast, e4 j hjn, roomsL_at (m := n) (by omega) hjn]
      refine ⟨rfl, by rw [List.length_set]; exact e2, by omega, fun x hx => ?_, ?_⟩
      · rw [ht, Int.toNat_natCast]
        by_cases hxn : x = n
        · subst hxn
          rw [List.getD_eq_getElem?_getD, List.getElem?_set_self (by omega), roomsL_at (m := x + 1) (by omega) (by omega), roomsL_last]; rfl
        · rw [List.getD_eq_getElem?_getD, List.getElem?_set_ne (by omega), ← List.getD_eq_getElem?_getD, e4 x (by omega)]
      · rw [mostL, e5]
        have e : ((metL (dOf p) n).map fun j : Nat => (j : Int)) ++ [(n : Int)] = ((metL (dOf p) n) ++ [n]).map fun j : Nat => (j : Int) := by rw [List.map_append]; rfl
        have key : (payF shares (((metL (dOf p) n).map fun j : Nat => (j : Int)) ++ [(n : Int)])).length = (((metL (dOf p) n) ++ [n]).filter fun j => (payOf shares).getD j false).length := by
          unfold payF
          rw [e, List.filter_map, List.length_map]
          congr 1
          refine List.filter_congr fun j hj => ?_
          rcases List.mem_append.mp hj with hj | hj
          · exact hpj j hj
          · rw [List.mem_singleton.mp hj]
            show decide (0 < shares.getD (n : Int).toNat 0) = _
            rw [Int.toNat_natCast, pay_at h5 hn]
        show max (mostL (dOf p) (payOf shares) n) ((payF shares (((metL (dOf p) n).map fun j : Nat => (j : Int)) ++ [(n : Int)])).length : Int) = _
        rw [key]
theorem rooms_end {p shares : List Int} (ok : PageOk p) (h5 : shares.length = 5) : roomsF p shares = (roomsL (dOf p) (payOf shares) 5, mostL (dOf p) (payOf shares) 5) := by
  obtain ⟨e1, e2, e3, e4, e5⟩ := rooms_inv ok h5 10 (by omega)
  rw [ok.cnt10] at e4 e5
  unfold roomsF
  rw [ok.len, e5]
  congr 1
  refine List.ext_getElem (by rw [e2, roomsL_len]) fun x h1 h2 => ?_
  have := e4 x (by omega)
  rw [List.getD_eq_getElem?_getD, List.getD_eq_getElem?_getD, List.getElem?_eq_getElem h1, List.getElem?_eq_getElem h2] at this
  exact this
theorem most_ok {p shares : List Int} (ok : PageOk p) (h5 : shares.length = 5) : (unlike (((List.range 5).filter fun x => (payOf shares).getD x false).map fun x => (roomsL (dOf p) (payOf shares) 5).getD x 0) : Int) = mostL (dOf p) (payOf shares) 5 := by
  have h := List.all_eq_true.mp (List.all_eq_true.mp ds_ok _ ok.ds) (payOf shares) (pays_mem 5 _ (by unfold payOf; rw [List.length_map]; exact h5))
  exact eq_of_beq h
end Mine
end
section
open PySem PySem.Calls PyProof.Rows
set_option maxRecDepth 100000
set_option linter.unusedVariables false
namespace Mine
noncomputable abbrev rmX (p cells : List Int) (x : Nat) : Int := (roomsL (dOf p) (payOf (sharesF cells)) 5).getD x 0
noncomputable def nX (p cells : List Int) (base : Int) (x : Nat) : Nat := (base + 3 * rmX p cells x).toNat
noncomputable def lX (cells : List Int) (x : Nat) : Nat := (lightF cells x).toNat
noncomputable def sX (cells : List Int) (x : Nat) : Nat := (shareF cells x).toNat
noncomputable def tcol (p cells : List Int) (base : Int) (x : Nat) : List UInt64 := [if sX cells x = 0 then 0 else hueN (nX p cells base x % 16), lN (lX cells x), sN (sX cells x)]
noncomputable def mcol (p cells : List Int) (base : Int) (x : Nat) : List UInt64 := madeP base (rmX p cells x) (cells.getD x 0)
section
variable {p cells : List Int} {base : Int}
theorem shares5 : (sharesF cells).length = 5 := by unfold sharesF; rw [List.length_map, List.length_range]
theorem share_at {x : Nat} (hx : x < 5) : (sharesF cells).getD x 0 = shareF cells x := by
  unfold sharesF
  rw [List.getD_eq_getElem?_getD, List.getElem?_map, List.getElem?_range hx]; rfl
theorem share_b (x : Nat) : 0 ≤ shareF cells x ∧ shareF cells x < 5 := fmod_range (by omega)
theorem light_b (x : Nat) : 1 ≤ lightF cells x ∧ lightF cells x ≤ 7 := by
  have := fmod_range (a := (cells.getD x 0).fdiv 64) (b := 7) (by omega)
  unfold lightF; omega
theorem lX_b (x : Nat) : 1 ≤ lX cells x ∧ lX cells x ≤ 7 := by have := light_b (cells := cells) x; unfold lX; omega
theorem sX_b (x : Nat) : sX cells x ≤ 4 := by have := share_b (cells := cells) x; unfold sX; omega
theorem lX_c (x : Nat) : ((lX cells x : Nat) : Int) = lightF cells x := by have := light_b (cells := cells) x; unfold lX; omega
theorem sX_c (x : Nat) : ((sX cells x : Nat) : Int) = shareF cells x := by have := share_b (cells := cells) x; unfold sX; omega
theorem pay_x {x : Nat} (hx : x < 5) : (payOf (sharesF cells)).getD x false = decide (0 < sX cells x) := by
  rw [pay_at shares5 hx, share_at hx]
  have := share_b (cells := cells) x
  unfold sX
  by_cases h : 0 < shareF cells x
  · rw [decide_eq_true h, decide_eq_true (by omega)]
  · rw [decide_eq_false h, decide_eq_false (by omega)]
theorem rm_b {x : Nat} (hx : x < 5) : 0 ≤ rmX p cells x ∧ rmX p cells x < 6 := roomsL_range hx (Nat.le_refl _)
theorem nX_c (hb : 0 ≤ base ∧ base < 32) {x : Nat} (hx : x < 5) : ((nX p cells base x : Nat) : Int) = base + 3 * rmX p cells x := by
  have := rm_b (p := p) (cells := cells) hx
  unfold nX; omega
theorem nX_b (hb : 0 ≤ base ∧ base < 32) {x : Nat} (hx : x < 5) : nX p cells base x < 47 := by
  have := rm_b (p := p) (cells := cells) hx
  have := nX_c (p := p) (cells := cells) hb hx
  omega
theorem mcol_eq (hb : 0 ≤ base ∧ base < 32) {x : Nat} (hx : x < 5) : mcol p cells base x = hlsF (hueN (nX p cells base x)) (lN (lX cells x)) (sN (sX cells x)) := by
  unfold mcol madeP hP lP sP hueN lN sN
  rw [nX_c hb hx, lX_c, sX_c]
  rfl
theorem mcol_chk (hb : 0 ≤ base ∧ base < 32) {x : Nat} (hx : x < 5) : ∀ c, c < 3 → chk ((mcol p cells base x).getD c 0) (partC (nX p cells base x) (lX cells x) (sX cells x) c) = true := by
  rw [mcol_eq hb hx]
  exact made_ok (nX_b hb hx) (lX_b x) (sX_b x)
theorem told_col (hb : 0 ≤ base ∧ base < 32) {x : Nat} (hx : x < 5) : toldP (mcol p cells base x) = tcol p cells base x ∧ rgbOk (quantF ((mcol p cells base x).getD 0 0)) (quantF ((mcol p cells base x).getD 1 0)) (quantF ((mcol p cells base x).getD 2 0)) = true := by
  have h := mcol_chk (p := p) (cells := cells) hb hx
  unfold toldP
  rw [quant_of (h 0 (by omega)), quant_of (h 1 (by omega)), quant_of (h 2 (by omega))]
  obtain ⟨h1, h2⟩ := rgb_ok (n := nX p cells base x) (lX_b (cells := cells) x) (sX_b (cells := cells) x)
  exact ⟨h2, h1⟩
theorem mcol_len (x : Nat) : (mcol p cells base x).length = 3 := hls_len _ _ _
theorem room_back : ((List.range 32).all fun b => (List.range 6).all fun r => (((((b + 3 * r) % 16 : Nat) : Int) - b) * 11).fmod 16 == (r : Int)) = true := by decide +kernel
theorem four_at {α : Type} {f : Nat → List α} (hf : ∀ x, (f x).length = 4) : ∀ {n x k : Nat}, x < n → k < 4 → ((List.range n).flatMap f)[4 * x + k]? = (f x)[k]?
  | 0, x, k, h, _ => by omega
  | n + 1, x, k, h, hk => by
    have hl : ∀ m, ((List.range m).flatMap f).length = 4 * m := fun m => by
      induction m with
      | zero => rfl
      | succ m ih => rw [List.range_succ, List.flatMap_append, List.length_append, ih]; simp [hf]; omega
    rw [List.range_succ, List.flatMap_append]
    by_cases q : x = n
    · subst q
      rw [List.getElem?_append_right (by rw [hl]; omega), hl, Nat.add_sub_cancel_left]
      simp
    · rw [List.getElem?_append_left (by rw [hl]; omega)]
      exact four_at hf (by omega) hk
theorem row_said {x k : Nat} (hx : x < 5) (hk : k < 4) : rowAt (dueF p 5) (4 * x + k) = (dueRow p x).getD k [] := by
  unfold rowAt dueF
  rw [List.getD_eq_getElem?_getD, List.getD_eq_getElem?_getD, four_at (fun x => rfl) hx hk]
theorem in_said {x j : Nat} (hx : x < 5) (hj : j < 5) : inF (dueF p 5) x j = decide ((j : Int) ∈ stayF p (x : Int)) := by
  unfold inF
  rw [row_said hx (by omega)]
  show (due2 (stayF p (x : Int))).getD j default = _
  unfold due2
  rw [List.getD_eq_getElem?_getD, List.getElem?_map, List.getElem?_range hj]; rfl
theorem hue_int {m : Nat} (hm : m < 16) : truncI (Float64.mul (hueN m) 4625196817309499392) = (m : Int) ∧ Float64.isFinite (Float64.mul (hueN m) 4625196817309499392) = true ∧ Float64.cmp (hueN m) (hueN m) = some .eq := by
  have h := all_at s_int hm
  simp only [Bool.and_eq_true, beq_iff_eq] at h
  exact ⟨h.1.1, h.1.2, h.2⟩
theorem tcol_pay {x : Nat} : (Float64.cmp ((tcol p cells base x).getD 2 0) 0 == some .gt) = decide (0 < sX cells x) := by
  have hs := sX_b (cells := cells) x
  have h := s_sgn
  simp only [Bool.and_eq_true] at h
  obtain ⟨⟨⟨⟨_, _⟩, h3⟩, h4⟩, _⟩ := h
  show (Float64.cmp (sN (sX cells x)) 0 == some .gt) = _
  generalize sX cells x = s at *
  by_cases q : s = 0
  · subst q
    simpa using h4
  · rw [decide_eq_true (by omega)]
    exact List.all_eq_true.mp h3 s (by simp only [List.mem_cons, List.not_mem_nil, or_false]; omega)
theorem paint_room (hb : 0 ≤ base ∧ base < 32) (ok : PageOk p) {x : Nat} (hx : x < 5) : roomP (dueF p 5) base ((List.range x).map (tcol p cells base)) x = rmX p cells x := by
  unfold roomP
  have e1 : metF (dueF p 5) ((List.range x).map (tcol p cells base)) x = (metL (dOf p) x).map (tcol p cells base) := by
    unfold metF metL
    rw [List.length_map, List.length_range]
    have ef : (List.range x).filter (fun j => inF (dueF p 5) x j || inF (dueF p 5) j x) = (List.range x).filter fun j => decide (x < (dOf p).getD j 0) := List.filter_congr fun j hj => by
      have hjx := List.mem_range.mp hj
      rw [in_said hx (by omega), in_said (by omega) hx]
      exact ok.met x j hx hjx
    rw [ef]
    refine List.map_congr_left fun j hj => ?_
    have hjx := List.mem_range.mp (List.mem_filter.mp hj).1
    rw [List.getD_eq_getElem?_getD, List.getElem?_map, List.getElem?_range hjx]; rfl
  rw [e1]
  have e2 : takenP base ((metL (dOf p) x).map (tcol p cells base)) = takenL (dOf p) (payOf (sharesF cells)) (roomsL (dOf p) (payOf (sharesF cells)) x) x := by
    unfold takenP takenL
    rw [List.filter_map, List.map_map]
    have ef : (metL (dOf p) x).filter ((fun t : List UInt64 => Float64.cmp (t.getD 2 0) 0 == some .gt) ∘ tcol p cells base) = (metL (dOf p) x).filter fun j => (payOf (sharesF cells)).getD j false := List.filter_congr fun j hj => by
      have hjx := met_lt hj
      rw [pay_x (by omega)]
      exact tcol_pay
    rw [ef]
    refine List.map_congr_left fun j hj => ?_
    obtain ⟨hj1, hj2⟩ := List.mem_filter.mp hj
    have hjx := met_lt hj1
    have hj5 : j < 5 := by omega
    rw [pay_x hj5] at hj2
    have hs : ¬ sX cells j = 0 := by have := of_decide_eq_true hj2; omega
    show ((truncI (Float64.mul ((tcol p cells base j).getD 0 0) 4625196817309499392) - base) * 11).fmod 16 = _
    have e0 : (tcol p cells base j).getD 0 0 = hueN (nX p cells base j % 16) := by
      show (if sX cells j = 0 then 0 else hueN (nX p cells base j % 16)) = _
      rw [if_neg hs]
    rw [e0, (hue_int (Nat.mod_lt _ (by omega))).1, ← roomsL_at (m := x) (n := 5) (by omega) hjx]
    have hr := rm_b (p := p) (cells := cells) hj5
    have hn := nX_c (p := p) (cells := cells) hb hj5
    show _ = rmX p cells j
    generalize rmX p cells j = r at *
    have := all_at (all_at room_back (i := base.toNat) (by omega)) (i := r.toNat) (by omega)
    have hq := eq_of_beq this
    have e3 : ((base.toNat + 3 * r.toNat) % 16 : Nat) = nX p cells base j % 16 := by
      have : ((base.toNat + 3 * r.toNat : Nat) : Int) = (nX p cells base j : Nat) := by rw [hn]; omega
      have : base.toNat + 3 * r.toNat = nX p cells base j := by exact_mod_cast this
      rw [this]
    rw [e3] at hq
    have e4 : ((base.toNat : Nat) : Int) = base := by omega
    have e5 : ((r.toNat : Nat) : Int) = r := by omega
    rw [e4, e5] at hq
    exact hq
  rw [e2]
  show _ = (roomsL (dOf p) (payOf (sharesF cells)) 5).getD x 0
  rw [roomsL_at (m := x + 1) (by omega) (by omega), roomsL_last]
theorem paint_eq (hb : 0 ≤ base ∧ base < 32) (ok : PageOk p) : ∀ i, i ≤ 5 → paintSt (dueF p 5) cells base i = ⟨(List.range i).map (mcol p cells base), (List.range i).map (tcol p cells base)⟩
  | 0, _ => rfl
  | i + 1, hi => by
    rw [paint_succ, paint_eq hb ok i (by omega)]
    unfold paintStep
    dsimp only
    rw [paint_room hb ok (by omega), List.range_succ, List.map_append, List.map_append]
    have e : madeP base (rmX p cells i) (cells.getD i 0) = mcol p cells base i := rfl
    rw [e, (told_col hb (by omega)).1]
    rfl
theorem tcol_fin (x : Nat) : (tcol p cells base x).length = 3 ∧ Float64.isFinite (Float64.mul ((tcol p cells base x).getD 0 0) 4625196817309499392) = true := by
  refine ⟨rfl, ?_⟩
  show Float64.isFinite (Float64.mul (if sX cells x = 0 then 0 else hueN (nX p cells base x % 16)) 4625196817309499392) = true
  split
  · have h := s_zero
    simp only [Bool.and_eq_true] at h
    exact h.2
  · exact (hue_int (Nat.mod_lt _ (by omega))).2.1
theorem in_three {u : UInt64} {l : List UInt64} (h : l.length = 3) (hu : u ∈ l) : ∃ c, c < 3 ∧ u = l.getD c 0 := by
  obtain ⟨i, hi, e⟩ := List.mem_iff_getElem.mp hu
  exact ⟨i, by omega, by rw [List.getD_eq_getElem?_getD, List.getElem?_eq_getElem hi, ← e]; rfl⟩
theorem paint_ok (hb : 0 ≤ base ∧ base < 32) (ok : PageOk p) {i : Nat} (hi : i < 5) : PaintOk (dueF p 5) cells base i := by
  have e := paint_eq (cells := cells) hb ok i (by omega)
  have er := paint_room (cells := cells) hb ok hi
  have hr := rm_b (p := p) (cells := cells) hi
  have e2 : madeP base (rmX p cells i) (cells.getD i 0) = mcol p cells base i := rfl
  constructor
  · rw [e]
    intro t ht
    obtain ⟨x, _, rfl⟩ := List.mem_map.mp ht
    exact tcol_fin x
  · rw [e, er]
    exact inf_small (by omega)
  · have := light_b (cells := cells) i
    unfold lightF at this
    exact inf_small (by omega)
  · have := share_b (cells := cells) i
    unfold shareF at this
    exact inf_small (by omega)
  · rw [e, er, e2]
    intro u hu
    obtain ⟨c, hc, rfl⟩ := in_three (mcol_len i) hu
    have h := mcol_chk (p := p) (cells := cells) hb hi c hc
    unfold chk at h
    simp only [Bool.and_eq_true, beq_iff_eq] at h
    refine ⟨h.1.2, ?_⟩
    rw [h.2]
    exact inf_small (part_bound (lX_b i) (sX_b i))
  · rw [e, er, e2]
    exact (told_col hb hi).2
end
end Mine
end
section
open PySem PySem.Calls PyProof.Rows PySem.Builtin.Str PySem.StrLaws
set_option maxRecDepth 100000
set_option linter.unusedVariables false
namespace Mine
theorem unlike_eq (ns : List Int) : unlike ns = (ns.foldl step_dedup []).length := by
  unfold unlike firstMet
  have e : (List.range ns.length).map (fun i => ns.getD i 0) = ns := by
    refine List.ext_getElem (by simp) fun i h1 h2 => ?_
    simp [h2]
  rw [e]
theorem dedup_map (f : Int → Int) (D : Int → Prop) (hf : ∀ a b, D a → D b → f a = f b → a = b) : ∀ (l acc : List Int), (∀ a ∈ l, D a) → (∀ a ∈ acc, D a) → (l.map f).foldl step_dedup (acc.map f) = (l.foldl step_dedup acc).map f
  | [], acc, _, _ => rfl
  | a :: l, acc, hl, ha => by
    have hda := hl a (.head _)
    have e : step_dedup (acc.map f) (f a) = (step_dedup acc a).map f := by
      unfold step_dedup
      have e1 : (acc.map f).any (· == f a) = acc.any (· == a) := by
        rw [List.any_map, Bool.eq_iff_iff, List.any_eq_true, List.any_eq_true]
        constructor
        · rintro ⟨b, hb, q⟩
          refine ⟨b, hb, ?_⟩
          have q' : f b = f a := by simpa using q
          rw [hf b a (ha b hb) hda q']; simp
        · rintro ⟨b, hb, q⟩
          have q' : b = a := by simpa using q
          exact ⟨b, hb, by rw [q']; simp⟩
      rw [e1]
      split
      · rfl
      · rw [List.map_append]; rfl
    rw [List.map_cons, List.foldl_cons, List.foldl_cons, e]
    refine dedup_map f D hf l _ (fun b hb => hl b (.tail _ hb)) fun b hb => ?_
    unfold step_dedup at hb
    split at hb
    · exact ha b hb
    · rcases List.mem_append.mp hb with q | q
      · exact ha b q
      · rw [List.mem_singleton.mp q]; exact hda
theorem unlike_map {f : Int → Int} {D : Int → Prop} (hf : ∀ a b, D a → D b → f a = f b → a = b) {l : List Int} (hl : ∀ a ∈ l, D a) : unlike (l.map f) = unlike l := by
  rw [unlike_eq, unlike_eq]
  have := dedup_map f D hf l [] hl (fun a ha => by cases ha)
  rw [List.map_nil] at this
  rw [this, List.length_map]
theorem part_mul : ((List.range 16).all fun m => (List.range 3).all fun i => (4 - min (max (wayF (m : Int) (16 * i : Nat) - 8) 0) 8 : Int) == mulK (keyN m i)) = true := by decide +kernel
section
variable {p cells : List Int} {base : Int}
theorem part_at (hb : 0 ≤ base ∧ base < 32) {x i : Nat} (hx : x < 5) (hi : i < 3) : (partsF (((nX p cells base x % 16 : Nat) : Int)) (lightF cells x) (shareF cells x)).getD i 0 = partC (nX p cells base x) (lX cells x) (sX cells x) i := by
  have hm : nX p cells base x % 16 < 16 := Nat.mod_lt _ (by omega)
  have e1 : (partsF (((nX p cells base x % 16 : Nat) : Int)) (lightF cells x) (shareF cells x)).getD i 0 = partAt ((nX p cells base x % 16 : Nat) : Int) (lightF cells x) (shareF cells x) ((16 * i : Nat) : Int) := by
    match i, hi with
    | 0, _ => rfl
    | 1, _ => rfl
    | 2, _ => rfl
  rw [e1]
  have e2 := eq_of_beq (all_at (all_at part_mul hm) hi)
  unfold partAt partC partI
  rw [e2, ← key_mod, ← lX_c, ← sX_c]
  have hl := lX_b (cells := cells) x
  have e3 : (min ((lX cells x : Nat) : Int) (8 - ((lX cells x : Nat) : Int))) = ((min (lX cells x) (8 - lX cells x) : Nat) : Int) := by omega
  rw [e3]
theorem far_no {made : List UInt64} {parts : List Int} {i : Nat} (h : chk (made.getD i 0) (parts.getD i 0) = true) : farF made parts i = false := by
  unfold chk at h
  simp only [Bool.and_eq_true, beq_iff_eq] at h
  unfold farF
  dsimp only
  rw [h.1.1]; rfl
theorem okL_self : ∀ l : List UInt64, (∀ u ∈ l, Float64.cmp u u = some .eq) → okL (l.map D.flt) (l.map D.flt) = true ∧ eqL (l.map D.flt) (l.map D.flt) = true
  | [], _ => ⟨rfl, rfl⟩
  | u :: l, h => by
    obtain ⟨h1, h2⟩ := okL_self l fun v hv => h v (.tail _ hv)
    rw [List.map_cons, okL, eqL, h1, h2]
    refine ⟨?_, rfl⟩
    show (Float64.cmp u u == some .eq && true) = true
    rw [h u (.head _)]; rfl
theorem tcol_same (x : Nat) : ∀ u ∈ tcol p cells base x, Float64.cmp u u = some .eq := by
  intro u hu
  have hls := fun l (hl : l < 8) => by
    have := all_at s_ls hl
    simp only [Bool.and_eq_true, beq_iff_eq] at this
    exact this
  unfold tcol at hu
  simp only [List.mem_cons, List.not_mem_nil, or_false] at hu
  rcases hu with rfl | rfl | rfl
  · split
    · have h := s_zero
      simp only [Bool.and_eq_true, beq_iff_eq] at h
      exact h.1
    · exact (hue_int (Nat.mod_lt _ (by omega))).2.2
  · exact (hls _ (by have := lX_b (cells := cells) x; omega)).1
  · exact (hls _ (by have := sX_b (cells := cells) x; omega)).2
theorem mF_eq (hb : 0 ≤ base ∧ base < 32) {x : Nat} (hx : x < 5) : mF base (roomsL (dOf p) (payOf (sharesF cells)) 5) x = ((nX p cells base x % 16 : Nat) : Int) := by
  unfold mF
  have e : base + 3 * (roomsL (dOf p) (payOf (sharesF cells)) 5).getD x 0 = ((nX p cells base x : Nat) : Int) := (nX_c hb hx).symm
  rw [e]
  show ((nX p cells base x : Nat) : Int).fmod ((16 : Nat) : Int) = _
  rw [Int.fmod_eq_emod_of_nonneg _ (by omega)]
  rfl
theorem due_eq (hb : 0 ≤ base ∧ base < 32) {x : Nat} (hx : x < 5) : dueT base cells (roomsL (dOf p) (payOf (sharesF cells)) 5) x = tcol p cells base x := by
  unfold dueT tcol
  rw [mF_eq hb hx, ← lX_c, ← sX_c]
  have hs : (if 0 < ((sX cells x : Nat) : Int) then Float64.div (Float64.ofInt ((nX p cells base x % 16 : Nat) : Int)) 4625196817309499392 else 0) = (if sX cells x = 0 then 0 else hueN (nX p cells base x % 16)) := by
    by_cases q : sX cells x = 0
    · rw [if_pos q, if_neg (by omega)]
    · rw [if_neg q, if_pos (by omega)]; rfl
  rw [hs]; rfl
end
theorem sub_page {page : List Int} (hr : ∀ x ∈ page, 0 ≤ x ∧ x < 5) {stay : List Int} (h : stay ∈ staysF page ++ [page]) : ∀ x ∈ stay, 0 ≤ x ∧ x < 5 := fun x hx => hr x ((stays_sub h).1 x hx)
theorem list_at {α β : Type} {f : Nat → β} {x : Nat} (d : β) (hx : x < 5) : ((List.range 5).map f).getD x d = f x := by
  rw [List.getD_eq_getElem?_getD, List.getElem?_map, List.getElem?_range hx]; rfl
theorem law_ok (cells : List Int) (h6 : cells.length = 6) : ∃ said made told rooms most, LawOk cells (pageF cells) (signsOf cells) (baseOf cells) said made told rooms most := by
  have ok := pageOk (page_chk cells)
  generalize hp : pageF cells = p at *
  obtain ⟨S, hS, L⟩ := signs_let ((cells.getD 5 0).fdiv 2)
  have hS : signsOf cells = S.map mk1 := hS
  have hb : 0 ≤ baseOf cells ∧ baseOf cells < 32 := fmod_range (by omega)
  generalize baseOf cells = base at *
  have hrow : ∀ stay ∈ staysF p ++ [p], RowOk (rowF (S.map mk1) stay) ∧ (escF (rowF (S.map mk1) stay)).length ≤ 500 := fun stay hst => by
    have hs := sub_page ok.lo hst
    have hl : (tl (rowF (S.map mk1) stay)).length ≤ 10 := by
      rw [row_tl L hs]
      unfold natsOf
      rw [List.length_map, List.length_map]
      have := (stays_sub hst).2
      rw [ok.len] at this; exact this
    refine ⟨row_ok (row_alpha L hs) hl, ?_⟩
    rw [tl_len, esc6_tl]
    have := Mine.h6.short short6 _ (row_alpha L hs)
    omega
  refine ⟨dueF p 5, (List.range 5).map (mcol p cells base), (List.range 5).map (tcol p cells base), roomsL (dOf p) (payOf (sharesF cells)) 5, mostL (dOf p) (payOf (sharesF cells)) 5, ?_⟩
  rw [hS]
  have hpaint := paint_eq (cells := cells) hb ok 5 (Nat.le_refl _)
  exact {
    cells6 := h6
    hp := ok.has
    hr := ok.lo
    hpz := ok.len
    hins := ok.ins
    signs5 := by rw [List.length_map, L.len]
    hbase := hb
    joins := fun stay hst => by
      have hs := sub_page ok.lo hst
      have hB : ∀ y ∈ stay.map (fun x => (S.map mk1).getD x.toNat ""), y.length ≤ 1 := fun y hy => by
        obtain ⟨x, hx, rfl⟩ := List.mem_map.mp hy
        have := hs x hx
        rw [sign_getD L (by omega)]
        exact Nat.le_refl _
      have hl := (stays_sub hst).2
      rw [ok.len] at hl
      have e0 : ("" : Str).length = 0 := by decide +kernel
      have hq := joinFits (sep := "") hB (by rw [e0, List.length_map]; omega)
      unfold JoinOk
      rw [hq]; rfl
    rows := fun r hr => by
      unfold rowsF at hr
      obtain ⟨stay, hst, rfl⟩ := List.mem_map.mp hr
      exact (hrow stay hst).1
    sgn := fun r hr => by
      obtain ⟨h1, h2⟩ := sign_alpha L hr
      exact row_ok h1 (by omega)
    hml := fun x hx => by
      obtain ⟨r, hr, rfl⟩ := List.mem_map.mp hx
      obtain ⟨h1, h2⟩ := sign_alpha L hr
      rw [tl_len, esc6_tl]
      have := Mine.h6.short short6 _ h1
      omega
    hwl := fun x hx => by
      obtain ⟨r, hr, rfl⟩ := List.mem_map.mp hx
      unfold rowsF at hr
      obtain ⟨stay, hst, rfl⟩ := List.mem_map.mp hr
      exact (hrow stay hst).2
    hsaid := said_eq L ok.lo ok.said
    hdue := rfl
    said20 := by
      unfold dueF
      rw [List.length_flatMap]
      have e : (fun a => (dueRow p a).length) = fun _ => 4 := by funext a; rfl
      rw [e, sum_four, List.length_range]
    hkey := fun i hi => by
      rw [show 4 * i = 4 * i + 0 by omega, row_said hi (by omega)]
      show ((due1 i).filter id).length = 4 - i
      match i, hi with
      | 0, _ => decide +kernel
      | 1, _ => decide +kernel
      | 2, _ => decide +kernel
      | 3, _ => decide +kernel
      | 4, _ => decide +kernel
    hrow := fun r hr => by
      unfold dueF at hr
      obtain ⟨x, hx, hr⟩ := List.mem_flatMap.mp hr
      unfold dueRow at hr
      simp only [List.mem_cons, List.not_mem_nil, or_false] at hr
      rcases hr with rfl | rfl | rfl | rfl
      · unfold due1; rw [List.length_map, List.length_range]; omega
      · unfold due2; rw [List.length_map, List.length_range]; omega
      · unfold due3; simp only [List.length_append, List.length_map, List.length_range]; omega
      · show 5 ≤ 100; omega
    hw5 := fun i hi => by
      rw [row_said hi (by omega)]
      show (due2 (stayF p (i : Int))).length = 5
      unfold due2; rw [List.length_map, List.length_range]
    paint := fun i hi => paint_ok hb ok hi
    hmade := by rw [hpaint]
    htold := by rw [hpaint]
    hrooms := rooms_end ok shares5
    rooms5 := roomsL_len 5
    roomsB := fun r hr => by
      obtain ⟨x, hx, e⟩ := List.mem_iff_getElem.mp hr
      have hx5 : x < 5 := by rw [roomsL_len] at hx; exact hx
      have := rm_b (p := p) (cells := cells) hx5
      have e' : rmX p cells x = r := by
        show (roomsL (dOf p) (payOf (sharesF cells)) 5).getD x 0 = r
        rw [List.getD_eq_getElem?_getD, List.getElem?_eq_getElem hx, ← e]; rfl
      rw [e'] at this; exact this
    near := fun x hx i hi => by
      rw [list_at (α := Nat) _ hx, mF_eq hb hx]
      refine far_no ?_
      rw [part_at hb hx hi]
      exact mcol_chk hb hx i hi
    partB := fun x hx i hi => by
      rw [mF_eq hb hx, part_at hb hx hi]
      exact Nat.lt_of_le_of_lt (part_bound (lX_b x) (sX_b x)) (by decide +kernel)
    made3 := fun t ht => by
      obtain ⟨x, _, rfl⟩ := List.mem_map.mp ht
      exact mcol_len x
    told3 := fun t ht => by
      obtain ⟨x, _, rfl⟩ := List.mem_map.mp ht
      exact (tcol_fin x).1
    toldF := fun t ht => by
      obtain ⟨x, _, rfl⟩ := List.mem_map.mp ht
      exact (tcol_fin x).2
    same := fun x hx => by
      rw [list_at (α := Nat) _ hx, due_eq hb hx]
      exact okL_self _ (tcol_same x)
    infM := fun x hx => by
      rw [mF_eq hb hx]
      exact inf_small (by have : nX p cells base x % 16 < 16 := Nat.mod_lt _ (by omega); omega)
    infL := fun x hx => inf_small (by have := light_b (cells := cells) x; omega)
    infS := fun x hx => inf_small (by have := share_b (cells := cells) x; omega)
    count := by
      rw [← most_ok ok shares5]
      congr 1
      have e : huesF ((List.range 5).map (tcol p cells base)) = (((List.range 5).filter fun x => (payOf (sharesF cells)).getD x false).map fun x => (roomsL (dOf p) (payOf (sharesF cells)) 5).getD x 0).map fun r => (base + 3 * r).fmod 16 := by
        unfold huesF
        rw [List.map_map]
        have ef : (List.range 5).filter (fun x : Nat => Float64.cmp ((((List.range 5).map (tcol p cells base)).getD x []).getD 2 0) 0 == some .gt) = (List.range 5).filter fun x => (payOf (sharesF cells)).getD x false := List.filter_congr fun x hx => by
          have hx5 := List.mem_range.mp hx
          rw [list_at (α := Nat) _ hx5, pay_x hx5]
          exact tcol_pay
        rw [ef]
        refine List.map_congr_left fun x hx => ?_
        obtain ⟨hx1, hx2⟩ := List.mem_filter.mp hx
        have hx5 := List.mem_range.mp hx1
        rw [pay_x hx5] at hx2
        have hs : ¬ sX cells x = 0 := by have := of_decide_eq_true hx2; omega
        rw [list_at (α := Nat) _ hx5]
        have e0 : (tcol p cells base x).getD 0 0 = hueN (nX p cells base x % 16) := by
          show (if sX cells x = 0 then 0 else hueN (nX p cells base x % 16)) = _
          rw [if_neg hs]
        rw [e0, (hue_int (Nat.mod_lt _ (by omega))).1]
        exact (mF_eq hb hx5).symm
      rw [e]
      refine unlike_map (D := fun r => 0 ≤ r ∧ r < 6) (fun a b ha hb' q => ?_) (fun a ha => ?_)
      · have h1 := Int.fmod_eq_emod_of_nonneg (base + 3 * a) (b := 16) (by omega)
        have h2 := Int.fmod_eq_emod_of_nonneg (base + 3 * b) (b := 16) (by omega)
        rw [h1, h2] at q
        omega
      · obtain ⟨x, hx, rfl⟩ := List.mem_map.mp ha
        exact rm_b (List.mem_range.mp (List.mem_filter.mp hx).1) }
end Mine
end
section
open PySem PySem.Calls PyProof.Rows PySem.W
set_option maxRecDepth 100000
set_option maxHeartbeats 4000000
namespace Mine
theorem fds_eq : fds P0 = [fdN 0, fdN 1, fdN 2, fdN 3, fdN 4, fdN 5, fdN 6, fdN 7, fdN 8, fdN 9, fdN 10, fdN 11, fdN 12, fdN 13, fdN 14] := by kernel_rfl
noncomputable def FnAt (h : Heap) (mg : Str → Option Value) (d : FD) : Prop := ∃ a o pm cd doc, mg d.name = some (.ref a) ∧ h.get? a = some o ∧ o.data = .func (docDef d.name d.params d.body d.scope pm cd doc) ∧ h.CodeRec cd d.name
/-- what of the top is looked at by its place: the statics, the names, the one maker and its code -/
noncomputable def entK (P : Params) (x : Str) (t : Nat) (v : Value) : DictEntry := { hash := PyData.keyHash P x, key := .str x t, val := v }
noncomputable def K0 (P : Params) : Frag := [
  (2, { cls := .none, data := .dict #[] }),
  (3, { cls := .type "dict", data := .dict #[
    entK P "__name__" 165 (.str "law_rw0034_01" 272),
    entK P "__doc__" 166 (.none),
    entK P "__package__" 167 (.none),
    entK P "__loader__" 168 (.builtin "__main__.__loader__#opaque"),
    entK P "__spec__" 169 (.none),
    entK P "__annotations__" 170 (.ref 6),
    entK P "__builtins__" 171 (.ref 4),
    entK P "__file__" 173 (.str "/claim/cut.py" 172),
    entK P "__cached__" 174 (.none),
    entK P "ONE_THIRD" 192 (.float 4599676419421066581 191),
    entK P "ONE_SIXTH" 196 (.float 4595172819793696085 195),
    entK P "TWO_THIRD" 200 (.float 4604180019048437077 199),
    entK P "rgb_to_hls" 219 (.ref 21),
    entK P "hls_to_rgb" 230 (.ref 28),
    entK P "_v" 239 (.ref 35),
    entK P "ELLIPSIS_MARKER" 243 (.str "..." 242),
    entK P "_ellipsis_match" 255 (.ref 42),
    entK P "_raise_serialization_error" 264 (.ref 49),
    entK P "_escape_attrib_c14n" 271 (.ref 56),
    entK P "_law_cells" 279 (.ref 61),
    entK P "_law_page" 285 (.ref 66),
    entK P "_law_signs" 293 (.ref 73),
    entK P "_law_spell" 299 (.ref 78),
    entK P "_law_rooms" 305 (.ref 83),
    entK P "_law_parts" 317 (.ref 90),
    entK P "_law_answers" 323 (.ref 95),
    entK P "_law_painted" 329 (.ref 100),
    entK P "law" 335 (.ref 105)] 28 }),
  (99, { cls := .type "code", data := .fields #[.str "_law_painted" 324, .str "_law_painted" 325, .str "/claim/cut.py" 326, .int 144 0, .int 3 0, .int 0 0, .int 0 0, .int 3 0, .ref 96, .bool true, .int 181 0, .ref 97, .none, .none, .none, .ref 98, .int 327 0, .int 144 0, .str "/claim/cut.py" 328] }),
  (100, { cls := .type "function", data := .func (docDef (fdN 13).name (fdN 13).params (fdN 13).body (fdN 13).scope (.str "law_rw0034_01" 272) (.ref 99) .none) })]
section
variable {P : Params} {h : Heap} {mg : Str → Option Value} (X : (K0 P).In h) (G : h.Ns mainGlobals mg)
include X G
theorem fnAtL : ∃ a o pm doc, mg (fdN 13).name = some (.ref a) ∧ h.get? a = some o ∧ o.data = .func (docDef (fdN 13).name (fdN 13).params (fdN 13).body (fdN 13).scope pm (.ref codA) doc) ∧ h.CodeRec (.ref codA) (fdN 13).name := ⟨100, _, _, _, mg_of X G (by kernel_rfl), X 100 _ rfl, rfl, codeRec_of X (by kernel_rfl)⟩
theorem constAt (p : Program) (w : World) : ∀ x ∈ consts, ∃ v, mg x.1 = some v ∧ Rp p w (fun _ => none) x.2 v := by
  intro x hx
  unfold consts at hx
  simp only [List.mem_cons, List.not_mem_nil, or_false] at hx
  rcases hx with rfl | rfl | rfl | rfl
  · exact ⟨.float 4599676419421066581 191, mg_of X G (by kernel_rfl), .flt (by decide)⟩
  · exact ⟨.float 4595172819793696085 195, mg_of X G (by kernel_rfl), .flt (by decide)⟩
  · exact ⟨.float 4604180019048437077 199, mg_of X G (by kernel_rfl), .flt (by decide)⟩
  · exact ⟨.str "..." 242, mg_of X G (by kernel_rfl), .str _⟩
theorem missAt : ∀ x ∈ blts, mg x = none := by
  intro x hx
  unfold blts at hx
  simp only [List.mem_cons, List.not_mem_nil, or_false] at hx
  rcases hx with rfl | rfl | rfl | rfl | rfl | rfl | rfl | rfl | rfl | rfl <;> exact mg_none_of X G (by kernel_rfl)
end
theorem bltNe : ∀ x ∈ blts, x ≠ ("__name__" : Str) := by
  intro x hx
  unfold blts at hx
  simp only [List.mem_cons, List.not_mem_nil, or_false] at hx
  rcases hx with rfl | rfl | rfl | rfl | rfl | rfl | rfl | rfl | rfl | rfl <;> decide
noncomputable def fdOf (d : DefRec) : FD := ⟨d.name, d.params, d.body, d.scope⟩
theorem fns_of {q : Program} {ls : List Str} {mean : ExcName → Option Value} {mg mb : Str → Option Value} {h : Heap} (hq : (recsOf q).map fdOf = fds P0) (T : Top q ls mean mg mb h) (hT : TabsAt [(99, 97)] h) : ∀ d ∈ fds P0, FnAt (ghostOf h [(99, 97)]) mg d := fun d hd => by
  rw [← hq] at hd
  obtain ⟨r, hr, rfl⟩ := List.mem_map.mp hd
  obtain ⟨a, o, pm, code, doc, h1, h2, h3, c, oc, vs, t, e1, e2, e3, e4⟩ := T.fn r hr
  refine ⟨a, o, pm, code, doc, h1, ghost_get hT h2 (fun q => by rw [q] at h3; cases h3), h3, c, oc, vs, t, e1, ghost_get hT e2 (fun q => ?_), e3, e4⟩
  rw [q] at e3
  cases e3
  cases e4
theorem gd_of {P : Params} {w : World} {h : Heap} {mg mb : Str → Option Value} {ls : List Str} {mean : ExcName → Option Value} (hf : ∀ d ∈ fds P0, FnAt h mg d) (X : (K0 P).In h) (T : Top topProg ls mean mg mb h) (C : CodeHd h codA tabA) (hT : h.get? tabA = none) : GdAt P0 w h mg mb where
  lim := T.nolimit
  unbooked := by
    obtain ⟨mc, hc, _⟩ := T.nodigits
    exact ⟨mc, hc, ns_none_of X hc (by kernel_rfl)⟩
  glob := T.g
  blt := T.b
  fn := hf
  const := constAt X T.g P0 w
  miss := missAt X T.g
  boot := fun x hx => T.builtins x (bltNe x hx)
  lam := by
    intro d hd hn
    rw [fds_eq] at hd
    simp only [List.mem_cons, List.not_mem_nil, or_false] at hd
    rcases hd with rfl | rfl | rfl | rfl | rfl | rfl | rfl | rfl | rfl | rfl | rfl | rfl | rfl | rfl | rfl
    · exact absurd hn (by decide +kernel)
    · exact absurd hn (by decide +kernel)
    · exact absurd hn (by decide +kernel)
    · exact absurd hn (by decide +kernel)
    · exact absurd hn (by decide +kernel)
    · exact absurd hn (by decide +kernel)
    · exact absurd hn (by decide +kernel)
    · exact absurd hn (by decide +kernel)
    · exact absurd hn (by decide +kernel)
    · exact absurd hn (by decide +kernel)
    · exact absurd hn (by decide +kernel)
    · exact absurd hn (by decide +kernel)
    · exact absurd hn (by decide +kernel)
    · exact fnAtL X T.g
    · exact absurd hn (by decide +kernel)
  head := C
  bmain := by
    obtain ⟨bm, ob, h1, h2, h3, h4, h5, h6⟩ := T.bmain
    refine ⟨bm, ob, h1, h2, fun q => ?_, fun q => ?_, h3, h4, h5, h6⟩
    · obtain ⟨o, es, ep, e1, e2, _⟩ := T.g
      rw [q, e1] at h3; cases h3
      rw [h6] at e2; cases e2
    · rw [q, hT] at h3; cases h3
end Mine
end
section
open PySem PySem.Calls PyProof.Rows PySem.W
set_option maxRecDepth 100000
set_option maxHeartbeats 4000000
set_option linter.unusedVariables false
namespace Mine
section
variable {M : Model} {A : Around} {E : Value → Shared → Prop} {s₀ s : Shared} {m cm : Str → Option Value} {env : Env}
theorem stLT {n : Str} {v : Value} {Q : Unit → Shared → Prop} (x : InCallC s₀ env.locals m env.cells cm s) (hk : env.scope.kind = .function) (hl : env.kindOf n = some .local)
    (h : ∀ s', s.toks + 1 ≤ s'.toks → InCallC s₀ env.locals (fun y => if y = n then some v else m y) env.cells cm s' → Q () s') : wpAny M A (storeName env n v) Q E s := by
  refine wpAny_storeName_local hl x.toInCall.ns (fun h' hn' hs' => h _ (Nat.le_refl _) ⟨⟨?_, hn', fun b o e => ?_, x.toInCall.fresh⟩, fun k c hc => ?_, x.apart, x.above⟩) (by rw [hk]; rfl)
  · obtain ⟨h₁, tk, rfl⟩ := x.toInCall.same
    exact ⟨h', _, rfl⟩
  · exact hs'.extBut b o (Nat.ne_of_lt (Nat.lt_of_lt_of_le (Heap.lt_size e) x.toInCall.fresh)) (x.toInCall.keep b o e)
  · exact (x.cell k c hc).sameBut hs' (Nat.ne_of_gt (x.above k c (mem_of_lookup hc)))
/-- the frame of a call with one plain parameter: a thing is made -/
theorem frame_one {scope : Scope} {globals : Addr} {n : Str} {v : Value} {qual : Str} {func : Option Addr} {code : Value} {builtins : Addr} {Q : Env → Shared → Prop} (hk : scope.kind = .function) (hl : scope.names.lookup n = some .local)
    (hQ : ∀ env, env = newEnv scope s.heap.objs.size globals (cellsFrom (s.heap.objs.size + 1) scope.names []) qual func code none builtins →
      ∀ s', s.toks + 1 ≤ s'.toks → InCallC s env.locals (bindL env.kindOf [(n, v)] fun _ => none) env.cells (bindC env.kindOf [(n, v)] fun _ => none) s' → Q env s') :
    wpAny M A (newFunctionEnv scope globals [] [(n, v)] qual func code none builtins) Q E s := by
  simp only [newFunctionEnv, Option.isSome_none, Bool.false_eq_true, if_false]
  refine wpAny_bind (wpAny_alloc ?_)
  refine wpAny_bind (wpAny_layCells _ (fun name kind cells => by cases hkc : kind == NameKind.cell <;> simp [hkc]) _ _ _ _ ?_)
  have ok := cellsFrom_ok scope.names (s.heap.push { cls := .type "frame", data := .dict #[] }) (s.heap.objs.size + 1) [] ⟨fun _ _ hm => (nomatch hm), List.Pairwise.nil⟩ (by rw [Heap.size_push]; exact Nat.le_refl _)
  rw [Heap.size_push] at ok
  rw [show ({ s with heap := s.heap.push { cls := .type "frame", data := .dict #[] } } : Shared).heap.objs.size = s.heap.objs.size + 1 from Heap.size_push ..]
  refine wpAny_bind ?_
  rw [List.forIn_cons]
  refine wpAny_bind (wpAny_bind (stLT (s₀ := s) (m := fun _ => none) (cm := fun _ => none) (env := newEnv scope s.heap.objs.size globals (cellsFrom (s.heap.objs.size + 1) scope.names []) qual func code none builtins)
    ⟨⟨⟨_, _, rfl⟩, (Heap.Ns.new s.heap (.type "frame")).keeps (pushCells_keeps _ _), fun b o e => pushCells_keeps _ _ b o (Heap.get?_push_of_some _ e), Nat.le_refl _⟩,
      fun n c hc => (ok.empty n c (mem_of_lookup hc)).1, ok.apart, fun n c hm => (ok.empty n c hm).2⟩ hk hl fun s' ht x => wpAny_pure ?_))
  dsimp only
  rw [List.forIn_nil]
  refine wpAny_pure (wpAny_pure (hQ _ rfl s' ht ?_))
  have hkk : (newEnv scope s.heap.objs.size globals (cellsFrom (s.heap.objs.size + 1) scope.names []) qual func code none builtins).kindOf n = some .local := hl
  unfold bindL bindC
  rw [if_pos hkk, if_pos hkk]
  exact x
end
theorem call_one {p : Program} {w : World} {A : Around} {s : Shared} {R : Result → Shared → Prop} {a : Addr} {o : Obj} {fd : FuncData} {body : List Stmt} {vals : List Value} {n : Str} {v : Value}
    (hroom : A.depth < recursionLimit) (ho : s.heap.get? a = some o) (hdata : o.data = .func fd) (hlim : s.heap.NoLimit) (hcd : s.heap.CodeRec fd.code fd.qualname)
    (hbody : fd.body = .stmts body) (hbind : bindArgs fd ⟨vals, []⟩ = pure [(n, v)]) (hclo : fd.closure = [])
    (hl : fd.scope.names.lookup n = some .local)
    (h : ∀ s₁, s.toks + 1 ≤ s₁.toks → InCallC s (callEnvC fd s.heap.objs.size a).locals (bindL (callEnvC fd s.heap.objs.size a).kindOf [(n, v)] fun _ => none) (callEnvC fd s.heap.objs.size a).cells
        (bindC (callEnvC fd s.heap.objs.size a).kindOf [(n, v)] fun _ => none) s₁ →
      wpAny (model p w) (A.deeper (callEnvC fd s.heap.objs.size a)) (execs body (callEnvC fd s.heap.objs.size a)) (fun f s' => R (.ok (.ret (match f with | .ret v => v | _ => .none))) s')
        (fun e s' => wpAny (model p w) (A.deeper (callEnvC fd s.heap.objs.size a)) (leaving (callEnvC fd s.heap.objs.size a) e) (fun _ s'' => R (.error e) s'') (fun e' s'' => R (.error e') s'') s') s₁)
    (hco : fd.scope.isCoroutine = false) (hgen : fd.scope.isGenerator = false) (hk : fd.scope.kind = .function) :
    codeAny (model p w) A (.call (.ref a) ⟨vals, []⟩) R s := by
  refine codeAny_call_function hroom ho hdata hco hgen hbody hcd ?_
  rw [hbind, hclo]
  refine wpAny_pure (frame_one hk hl fun env he s' htk x => ?_)
  subst he
  exact ⟨hlim.keeps x.toInCall.keep, codeAny_func (h s' htk x)⟩
end Mine
end
section
open PySem PySem.Calls PyProof.Rows PySem.W
set_option maxRecDepth 100000
set_option maxHeartbeats 4000000
set_option linter.unusedVariables false
namespace Mine
noncomputable def okAll : Prop := ∀ ns : List Int, ns.length ≤ 63 → ∃ page signs base said made told rooms most, pageF (cellsF ns) = page ∧ signsOf (cellsF ns) = signs ∧ baseOf (cellsF ns) = base ∧ LawOk (cellsF ns) page signs base said made told rooms most
theorem law_run {w : World} {s : Shared} {b : Heap} {mg mb : Str → Option Value} {fa la : Addr} {o ol : Obj} {pm cd doc : Value} {us : List Value} {nl : Nat} {ns : List Int} {R : Result → Shared → Prop}
    (G : GdAt P0 w b mg mb) (hbb : ∀ a o, b.get? a = some o → s.heap.get? a = some o) (hbT : b.get? tabA = none) (hT : s.heap.get? tabA = some (tabObj #[]))
    (ho : s.heap.get? fa = some o) (hdat : o.data = .func (docDef (fdN 14).name (fdN 14).params (fdN 14).body (fdN 14).scope pm cd doc)) (hcd : s.heap.CodeRec cd (fdN 14).name)
    (hl : b.get? la = some ol) (hlc : ol.cls = .type "list") (hld : ol.data = .seq us.toArray nl) (hI : IntsAre us ns) (hn : ns.length ≤ 63) (hok : okAll)
    (hR : ∀ s', (∀ c o, b.get? c = some o → s'.heap.get? c = some o) → (∃ ps, s'.heap.get? tabA = some (tabObj ps)) → (∃ h tk, s' = { s with heap := h, toks := tk }) → R (.ok (.ret (.bool true))) s') :
    codeAny (model P0 w) callerA (.call (.ref fa) ⟨[.ref la], []⟩) R s := by
  have k1 : (fdN 14).scope.names.lookup ("script" : Str) = some .local := by decide +kernel
  have k2 : (fdN 14).scope.isCoroutine = false := by decide +kernel
  have k3 : (fdN 14).scope.isGenerator = false := by decide +kernel
  have k4 : (fdN 14).scope.kind = .function := by decide +kernel
  refine call_one (n := "script") (v := .ref la) (by decide) ho hdat (G.lim.keeps hbb) hcd rfl (by kernel_rfl) rfl k1 (fun s₁ htk X => ?_) k2 k3 k4
  obtain ⟨page, signs, base, said, made, told, rooms, most, e1, e2, e3, ok⟩ := hok ns hn
  have ⟨h₁, tk, he⟩ := X.toInCall.same
  have hL : (callEnvC (docDef (fdN 14).name (fdN 14).params (fdN 14).body (fdN 14).scope pm cd doc) s.heap.objs.size fa).locals = s.heap.objs.size := rfl
  have keep := X.toInCall.keep
  have snone : ∀ c, s.heap.objs.size ≤ c → s.heap.get? c = none := fun c hc => by
    cases e : s.heap.get? c with
    | none => rfl
    | some o' => exact absurd (Heap.lt_size e) (Nat.not_lt.mpr hc)
  have gnone : ∀ c, s.heap.objs.size ≤ c → b.get? c = none := fun c hc => by
    cases e : b.get? c with
    | none => rfl
    | some o' => have := snone c hc; rw [hbb _ _ e] at this; cases this
  have hsc : (callEnvC (docDef (fdN 14).name (fdN 14).params (fdN 14).body (fdN 14).scope pm cd doc) s.heap.objs.size fa).kindOf "script" = some .local := by
    exact k1
  have O : SOk P0 w ⟨s, fun c => if c = tabA then none else s.heap.get? c, fun c => b.get? c, [(tabA, tabObj #[])]⟩ (fun _ => 0) (callEnvC (docDef (fdN 14).name (fdN 14).params (fdN 14).body (fdN 14).scope pm cd doc) s.heap.objs.size fa) [("script", .arg ns)] [] (fun c => b.get? c) s₁ :=
    { e := { sub := fun a o e => keep a o (hbb a o e), gd := ⟨b, mg, mb, fun _ _ e => e, G⟩, tok := Nat.le_trans (Nat.le_add_left 1 _) htk, kind := k4, glob := rfl, blt := rfl, lns := ⟨_, X.toInCall.ns⟩, cells := fun n c hc => ⟨_, X.cell n c hc⟩,
             hasc := fun x hx => by
               rcases hx with hx | hx
               · exact cells_isSome _ _ _ _ (.inl hx)
               · have hx' : (fdN 14).scope.names.lookup x = some .free := hx
                 have := List.all_eq_true.mp (show (fdN 14).scope.names.all (fun x => x.2 != .free) = true by decide +kernel) (x, .free) (mem_of_lookup hx')
                 simp at this
             vars := fun x d hx hkn => by
               rw [List.lookup_cons] at hx
               cases q : x == ("script" : Str) with
               | false => rw [q] at hx; cases hx
               | true =>
                 rw [q] at hx
                 cases hx
                 obtain rfl := beq_iff_eq.mp q
                 refine ⟨.ref la, .inl ⟨hsc, _, X.toInCall.ns, ?_⟩, Rp.arg_iff.mpr ⟨la, ol, nl, us, rfl, hl, hlc, hld, hI⟩⟩
                 unfold bindL
                 rw [if_pos hsc]
                 unfold bindL
                 simp }
      same := ⟨h₁, tk, he⟩
      keep := fun b o e => by
        dsimp only at e
        split at e
        · cases e
        · exact keep b o e
      klt := fun b o e => by
        dsimp only at e
        split at e
        · cases e
        · exact e
      le := .refl _
      fresh := fun a o e => .inl e
      old := fun a e => none_of_keep keep e
      tks := Nat.le_trans (Nat.le_add_right _ 1) htk
      xs := fun x hx => by
        rw [List.mem_singleton.mp hx]
        exact ⟨keep _ _ hT, hbT, fun q => by have q' : s.heap.get? tabA = none := q; rw [hT] at q'; cases q'⟩
      offL := ⟨gnone _ (Nat.le_refl _), snone _ (Nat.le_refl _)⟩
      offC := fun n c hc => by
        have hlt := X.above n c (mem_of_lookup hc)
        rw [hL] at hlt
        exact ⟨gnone c (Nat.le_of_lt hlt), snone c (Nat.le_of_lt hlt), Nat.ne_of_gt hlt⟩
      inj := fun n n' c h1 h2 => name_of_addr X.apart (mem_of_lookup h1) (mem_of_lookup h2)
      own := fun x c hc => by simp at hc
      apart := fun x y c d hx => by simp at hx }
  have W := law_walk (k := 20) ns (Nat.le_trans hn (by decide +kernel)) e1 e2 e3 ok
  refine W.go w _ _ _ _ _ s₁ _ _ ?_ rfl rfl (by simp) (fun q => by cases q) O fun d v g' s' ps hd rr En => ?_
  · have hr : Rm 25 callerA := ⟨rfl, by decide, by decide⟩
    exact hr.deeper _
  · subst hd
    rw [Rp.bool_iff] at rr
    subst rr
    exact hR s' (fun c o e => by
      exact En.sub c o (En.le c o e)) ⟨ps, En.xs _ (.head _)⟩ En.same
end Mine
end
open PySem PySem.W PyProof.Rows
set_option maxRecDepth 100000
set_option maxHeartbeats 8000000
theorem Mine.ok_all : Mine.okAll := fun ns _ => by
  obtain ⟨said, made, told, rooms, most, h⟩ := Mine.law_ok (Mine.cellsF ns) rfl
  exact ⟨_, _, _, said, made, told, rooms, most, rfl, rfl, rfl, h⟩
noncomputable def Mine.Vw : Program := view PySem.Challenge.pw_rw0034_01 [1, 2, 3, 4, 5, 6, 8, 9, 11, 12, 14, 15, 16, 17, 18, 19, 20, 21, 22]
noncomputable def Mine.loose : List PySem.Str := [PySem.Str.ofString "ONE_THIRD", PySem.Str.ofString "ONE_SIXTH", PySem.Str.ofString "TWO_THIRD"]
noncomputable def Mine.lv : List (PySem.Str × WData) := [(PySem.Str.ofString "ONE_THIRD", .float 0x3fd5555555555555), (PySem.Str.ofString "ONE_SIXTH", .float 0x3fc5555555555555), (PySem.Str.ofString "TWO_THIRD", .float 0x3fe5555555555555)]
noncomputable def Mine.H : Hook := kmHook Mine.K0 [2, 3, 99, 100] (fun _ => by kernel_rfl) [97]
theorem PySem.Challenge.cw_rw0034_01_holds : PySem.Challenge.rw_rw0034_01.Holds := by
  w_on
  o_law
  refine holds_open (q := Mine.Vw) (loose := Mine.loose) (Xt := fun s => xlAt Mine.Vw Mine.lv s && recOk (RowW.records (OpenRow.toRowW (OpenLaw.row PySem.Challenge.rw_rw0034_01))) s) (XP := XL Mine.Vw Mine.lv) (Yf := Hook.obs Mine.H) (Ya := Hook.val Mine.H) (YP := Hook.says Mine.H) (N := 1192) ?hl (Hook.of Mine.H) (Hook.keeps Mine.H) (fun s e => xl_of s (Bool.and_eq_true_iff.mp e).1) XL.keeps (by rfl) (by rfl) (by rfl) (fun s e => recFacts_of (Bool.and_eq_true_iff.mp e).2) (by rfl) (by assumption) (by decide +kernel) ⟨rfl, rfl, rfl, rfl, rfl, by decide +kernel⟩ ?hw ?hc
  case hl => intro w; kernel_rfl
  case hw => w_witness2
  k_fill
  intro w s₀ s₁ mg mb G Y fa o pm cd doc dV kV ho hd hcd hD hmg hg args vals as hpre hlay hrd hwl hlo
  have KX := km_in_of Y
  have hT8 := km_tabs_of Y
  have X := (Ground.X G).1
  have V := (Ground.X G).2
  refine Ground.open G ?_
  intro T B D TE TW
  try (refine guard_noD D (by decide +kernel) ?_; clear D)
  have hT9 : TabsAt [(99, 97)] s₁.heap := List.forall_mem_cons.mpr ⟨⟨codeHd_of_K (c := 99) (P := 97) KX (by kernel_rfl), hT8 97 (.head _)⟩, fun _ h => nomatch h⟩
  clear hmg
  wrow_args hpre hlay hrd hwl hlo
  rename_i ns hs hlay0 hL hr hl2 as1 as2 la us as3 hLi ra w1 r0 hI hr2 hc1 hc2
  refine enter_call ?_
  w_top on
  kn_posts
  obtain rfl := hD.none rfl
  obtain rfl := hD.noKw
  obtain ⟨ol, hol, hlc, nl, hld⟩ := ghost_list hT9 hLi
  have hTT := (hT9 (99, 97) (.head _)).2
  have GG := Mine.gd_of (w := w) (Mine.fns_of (by kernel_rfl) T hT9) (ghost_K hT9 KX (by kernel_rfl)) (ghost_top hT9 T) (ghost_code hT9).1 (hideAll_none _ (.head _))
  refine Mine.law_run GG (fun a o e => of_hideAll _ e) (hideAll_none _ (.head _)) hTT ho hd hcd hol hlc hld hI (by omega) Mine.ok_all fun s' hk hps hsame => ?_
  refine ⟨⟨.inl ⟨.bool true, .bool true, [], rfl, ?_, ?_, ?_, ?_⟩, hk, ?_, ?_⟩, ?_⟩
  · intro cls; rfl
  · exact .bool _
  · kernel_rfl
  · intro _; exact ⟨List.nodup_nil, fun a ha => nomatch ha⟩
  · obtain ⟨h, tk, rfl⟩ := hsame; rfl
  · obtain ⟨h, tk, rfl⟩ := hsame; exact hg
  · exact ⟨hps, trivial⟩
