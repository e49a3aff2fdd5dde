import PyProof.Rows.All
import Wide.All
import OpenK.AllK
import Wide.FinOn
import Lean
import PySem.Challenge.RW_dp0043_01

set_option Elab.async false
set_option linter.unusedVariables false

section
open PySem PySem.W PySem.Calls PyProof.Rows
namespace Mine

/-- what stood at s stands at s', but at X -/
structure Kp (X : Addr → Prop) (s s' : Shared) : Prop where
  keep : ∀ a o, ¬ X a → s.heap.get? a = some o → s'.heap.get? a = some o
  gens : s'.gens = s.gens
  os : s'.os = s.os

theorem Kp.rfl' {X : Addr → Prop} {s : Shared} : Kp X s s := ⟨fun _ _ _ e => e, rfl, rfl⟩
theorem Kp.trans {X : Addr → Prop} {s s' s'' : Shared} (a : Kp X s s') (b : Kp X s' s'') : Kp X s s'' :=
  ⟨fun c o hc e => b.keep c o hc (a.keep c o hc e), b.gens.trans a.gens, b.os.trans a.os⟩
theorem Kp.mono {X Y : Addr → Prop} {s s' : Shared} (a : Kp X s s') (h : ∀ c, X c → Y c) : Kp Y s s' :=
  ⟨fun c o hc e => a.keep c o (fun x => hc (h c x)) e, a.gens, a.os⟩
/-- what is new at the start of the later step may be turned by it -/
theorem Kp.fresh {X Y : Addr → Prop} {s s' : Shared} (a : Kp X s s') (h : ∀ c, X c → Y c ∨ s.heap.get? c = none) : Kp Y s s' :=
  ⟨fun c o hc e => a.keep c o (fun x => (h c x).elim hc fun q => by rw [q] at e; cases e) e, a.gens, a.os⟩
theorem Kp.toks {X : Addr → Prop} {s : Shared} (t : Tok) : Kp X s { s with toks := t } := ⟨fun _ _ _ e => e, rfl, rfl⟩
theorem Kp.same {X : Addr → Prop} {s : Shared} {h' : Heap} {t : Tok} {a : Addr} (hs : Heap.SameBut a s.heap h') (ha : X a) : Kp X s { s with heap := h', toks := t } :=
  ⟨fun c o hc e => (hs.2 c (fun q => hc (q ▸ ha))).trans e, rfl, rfl⟩
theorem Kp.push {X : Addr → Prop} {s : Shared} {t : Tok} (o : Obj) : Kp X s { s with heap := s.heap.push o, toks := t } :=
  ⟨fun _ _ _ e => Heap.get?_push_of_some _ e, rfl, rfl⟩
/-- the same but for the tokens -/
theorem Kp.un {X : Addr → Prop} {s s₁ s' : Shared} (k : Kp X s₁ s') (hh : s₁.heap = s.heap := by rfl) (hg : s₁.gens = s.gens := by rfl) (ho : s₁.os = s.os := by rfl) : Kp X s s' :=
  ⟨fun a o ha e => k.keep a o ha (by rw [hh]; exact e), k.gens.trans hg, k.os.trans ho⟩
theorem Kp.none {X : Addr → Prop} {s s' : Shared} {a : Addr} (k : Kp X s s') (ha : ¬ X a) (e : s'.heap.get? a = none) : s.heap.get? a = none := by
  cases q : s.heap.get? a with
  | none => rfl
  | some o => rw [k.keep a o ha q] at e; cases e
theorem get_fresh {h : Heap} {a : Addr} (e : h.objs.size ≤ a) : h.get? a = none := Heap.get?_none_of_le e

/-- tuples of ints, told apart by their first parting -/
def lexLt : List Int → List Int → Bool
  | x :: xs, y :: ys => if x = y then lexLt xs ys else decide (x < y)
  | [], _ :: _ => true
  | _, [] => false

/-- v is a tuple that holds the ints t -/
def TupOk (h : Heap) (v : Value) (t : List Int) : Prop :=
  ∃ a o n vs, v = .ref a ∧ h.get? a = some o ∧ o.cls = .type "tuple" ∧ o.data = .seq vs n ∧ IntsAre vs.toList t

theorem TupOk.kp {X : Addr → Prop} {s s' : Shared} {v : Value} {t : List Int} (k : Kp X s s') (x : TupOk s.heap v t) (hX : ∀ a, X a → ∀ o, s.heap.get? a = some o → o.cls ≠ .type "tuple") : TupOk s'.heap v t := by
  obtain ⟨a, o, n, vs, rfl, e, hc, r⟩ := x
  exact ⟨a, o, n, vs, rfl, k.keep a o (fun q => hX a q o e hc) e, hc, r⟩

theorem IntsAre.inj : ∀ {vs : List Value} {t u : List Int}, IntsAre vs t → IntsAre vs u → t = u
  | _, _, _, .nil, .nil => rfl
  | _, _, _, .cons n tk a, b => by
    cases b with
    | cons _ _ b => rw [IntsAre.inj a b]
theorem TupOk.inj {h : Heap} {v : Value} {t u : List Int} (x : TupOk h v t) (y : TupOk h v u) : t = u := by
  obtain ⟨a, o, n, vs, rfl, e, hc, hd, hi⟩ := x
  obtain ⟨a', o', n', vs', e', q, _, hd', hi'⟩ := y
  cases e'
  rw [e] at q
  cases q
  rw [hd] at hd'
  cases hd'
  exact IntsAre.inj hi hi'

section
variable {prog : Program} {w : World} {A : Around} {E : Value → Shared → Prop} {s : Shared}

theorem tup_lt_tree {a b : Addr} {oa ob : Obj} {xs ys : Array Value} {na nb : Nat} {x y : List Int} {P : PySem.Fin → Shared → Prop}
    (hoa : s.heap.get? a = some oa) (hda : oa.data = .seq xs na) (hia : IntsAre xs.toList x) (hob : s.heap.get? b = some ob) (hcb : ob.cls = .type "tuple") (hdb : ob.data = .seq ys nb) (hib : IntsAre ys.toList y)
    (h : P (.done (.ret (.bool (lexLt x y)))) s) :
    wpAny (model prog w) A (Builtin.«tuple.__lt__» ⟨[.ref a, .ref b], []⟩) P E s := by
  have hTb : s.TypeIs (.ref b) "tuple" := ⟨ob, hob, hcb⟩
  show wpAny _ _ (isInstance (.ref b) (.type "tuple") >>= _) _ _ s
  refine wpAny_bind (wpAny_isInstance hTb isSubtype_tuple_tuple ?_)
  simp only [Bool.not_true, Bool.false_eq_true, if_false]
  refine wpAny_bind (wpAny_tupleItemsOf hoa hda ?_)
  refine wpAny_bind (wpAny_tupleItemsOf hob hdb ?_)
  refine wpAny_bind ?_
  refine wpAny_forIn_list _
    (fun rest r s' => r.1 = none ∧ s' = s ∧ ∃ x' y' xs' ys', rest = List.zip xs' ys' ∧ IntsAre xs' x' ∧ IntsAre ys' y' ∧ lexLt x' y' = lexLt x y ∧ (decide (xs'.length < ys'.length)) = (decide (xs.size < ys.size)))
    _ ?_ ?_ _ _ ⟨rfl, rfl, x, y, xs.toList, ys.toList, rfl, hia, hib, rfl, by simp⟩
  · rintro ⟨u, v⟩ rest r s' ⟨hr, rfl, x', y', xs', ys', hz, hx', hy', hdec, hlen⟩
    cases hx' with
    | nil => simp at hz
    | @cons k1 t1 x'' xs'' hx'' =>
      cases hy' with
      | nil => simp at hz
      | @cons k2 t2 y'' ys'' hy'' =>
        simp only [List.zip_cons_cons, List.cons.injEq, Prod.mk.injEq] at hz
        obtain ⟨⟨rfl, rfl⟩, rfl⟩ := hz
        refine wpAny_bind (wpAny_eqBool_int ?_)
        by_cases hk : k1 = k2
        · subst hk
          rw [show (k1 == k1) = true from by simp]
          simp only [Bool.not_true, Bool.false_eq_true, if_false]
          refine wpAny_pure ⟨rfl, rfl, _, _, _, _, rfl, hx'', hy'', ?_, by simpa using hlen⟩
          rw [← hdec]
          simp [lexLt]
        · rw [show (k1 == k2) = false from by simpa using hk]
          simp only [Bool.not_false, if_true]
          have hf : lexLt x y = decide (k1 < k2) := by rw [← hdec]; simp [lexLt, hk]
          rw [hf] at h
          refine wpAny_bind (wpAny_rule ?_)
          refine wpAny_bind (show wpAny _ _ (compareOp .Lt (.int k1 t1) (.int k2 t2)) _ _ _ from wpAny_lt_int ?_)
          exact wpAny_bind (wpAny_pure (wpAny_pure (wpAny_pure h)))
  · rintro ⟨r1, r2⟩ s' ⟨hr, rfl, x', y', xs', ys', hz, hx', hy', hdec, hlen⟩
    simp only at hr
    subst hr
    refine wpAny_pure ?_
    have hfin : decide (xs.size < ys.size) = lexLt x y := by
      rw [← hdec, ← hlen]
      cases hx' with
      | nil =>
        cases hy' with
        | nil => simp [lexLt]
        | cons _ _ => simp [lexLt]
      | cons _ _ =>
        cases hy' with
        | nil => simp [lexLt]
        | cons _ _ => simp at hz
    show P (.done (.ret (.bool (decide (xs.size < ys.size))))) s'
    rw [hfin]; exact h

theorem tup_lt {v u : Value} {x y : List Int} {Q : Value → Shared → Prop} (hu : A.units < cLine) (hx : TupOk s.heap v x) (hy : TupOk s.heap u y) (h : Q (.bool (lexLt x y)) s) :
    wpAny (model prog w) A (compareOp .Lt v u) Q E s := by
  obtain ⟨a, oa, na, xs, rfl, hoa, hca, hda, hia⟩ := hx
  obtain ⟨b, ob, nb, ys, rfl, hob, hcb, hdb, hib⟩ := hy
  have hTa : s.TypeIs (.ref a) "tuple" := ⟨oa, hoa, hca⟩
  have hTb : s.TypeIs (.ref b) "tuple" := ⟨ob, hob, hcb⟩
  show wpAny _ _ (richCompare .Lt (.ref a) (.ref b)) Q E s
  exact wpAny_richCompare_same_room (op := .Lt) hTa hTb F.slot_tuple_lt
      (wpAny_call_entry F.slot_tuple_lt hTa F.entry_tuple_lt (tup_lt_tree hoa hda hia hob hcb hdb hib ⟨_, rfl, (fun e => nomatch e), h⟩) (F.args_tuple_lt_2 _ _)) hu
end
end Mine
end

section
open PySem PySem.W PySem.Calls PyProof.Rows
namespace Mine

/-- the text's statement at place i, and a def's parts -/
def fdef (i : Nat) : Stmt := PySem.Challenge.pw_dp0043_01.main.body.getD i (.Pass default)
def sBody : Stmt → List Stmt
  | .FunctionDef _ _ b _ _ _ _ _ _ _ => b
  | _ => []
def sArgs : Stmt → Arguments
  | .FunctionDef _ a _ _ _ _ _ _ _ _ => a
  | _ => { posonlyargs := [], args := [], vararg := none, kwonlyargs := [], kw_defaults := [], kwarg := none, defaults := [] }
def sScope : Stmt → Scope
  | .FunctionDef _ _ _ _ _ _ sc _ _ _ => sc
  | _ => { kind := .function, names := [], isGenerator := false, isCoroutine := false, more := [] }
def sName : Stmt → Str
  | .FunctionDef n _ _ _ _ _ _ _ _ _ => n
  | _ => Str.empty

def isVar : Option NameKind → Bool
  | some .local | some .cell | some .free => true
  | _ => false
def isOwn : Option NameKind → Bool
  | some .local | some .cell => true
  | _ => false

/-- what is known of a frame's names -/
structure Vs (env : Env) (h : Heap) (bs : List (Str × Value)) : Prop where
  ns : ∃ ml, h.Ns env.locals ml ∧ ∀ x v, bs.lookup x = some v → env.kindOf x = some .local → ml x = some v
  cl : ∀ x v, bs.lookup x = some v → (env.kindOf x = some .cell ∨ env.kindOf x = some .free) → ∃ c, env.cells.lookup x = some c ∧ h.IsCell c (some v)
  cells : ∀ x c, env.cells.lookup x = some c → ∃ v, h.IsCell c v
  inj : ∀ x y c, env.cells.lookup x = some c → env.cells.lookup y = some c → x = y

def Own (env : Env) (a : Addr) : Prop := a = env.locals ∨ ∃ x, env.cells.lookup x = some a

def Has (bs : List (Str × Value)) : List (Str × Value) → Prop
  | [] => True
  | p :: r => bs.lookup p.1 = some p.2 ∧ Has bs r
theorem Has.get {bs : List (Str × Value)} : ∀ {cs : List (Str × Value)}, Has bs cs → ∀ x v, cs.lookup x = some v → bs.lookup x = some v
  | [], _, _, _, e => by cases e
  | (y, u) :: r, h, x, v, e => by
    rw [List.lookup_cons] at e
    cases hb : x == y with
    | true => rw [hb] at e; cases e; rw [eq_of_beq hb]; exact h.1
    | false => rw [hb] at e; exact Has.get h.2 x v e
theorem Vs.weak {env : Env} {h : Heap} {bs cs : List (Str × Value)} (V : Vs env h bs) (H : Has bs cs) : Vs env h cs :=
  ⟨let ⟨ml, a, b⟩ := V.ns; ⟨ml, a, fun x v e k => b x v (H.get x v e) k⟩, fun x v e k => V.cl x v (H.get x v e) k, V.cells, V.inj⟩

theorem IsCell.kp {X : Addr → Prop} {s s' : Shared} {c : Addr} {v : Option Value} (k : Kp X s s') (hc : ¬ X c) (x : s.heap.IsCell c v) : s'.heap.IsCell c v :=
  let ⟨o, e, d⟩ := x; ⟨o, k.keep _ _ hc e, d⟩
theorem Ns.kp {X : Addr → Prop} {s s' : Shared} {a : Addr} {m : Str → Option Value} (k : Kp X s s') (hc : ¬ X a) (x : s.heap.Ns a m) : s'.heap.Ns a m :=
  let ⟨o, es, ep, e, d⟩ := x; ⟨o, es, ep, k.keep _ _ hc e, d⟩
theorem IsList.kp {X : Addr → Prop} {s s' : Shared} {a : Addr} {its : Array Value} (k : Kp X s s') (hc : ¬ X a) (x : s.heap.IsList a its) : s'.heap.IsList a its :=
  let ⟨o, e, d⟩ := x; ⟨o, k.keep _ _ hc e, d⟩

/-- a plain list -/
def PL (h : Heap) (l : Addr) (xs : List Value) : Prop := ∃ o n, h.get? l = some o ∧ o.cls = .type "list" ∧ o.dict = none ∧ o.data = .seq xs.toArray n
theorem PL.isList {h : Heap} {l : Addr} {xs : List Value} (x : PL h l xs) : h.IsList l xs.toArray := let ⟨o, n, e, c, _, d⟩ := x; ⟨o, e, c, n, d⟩
theorem PL.typeIs {s : Shared} {l : Addr} {xs : List Value} (x : PL s.heap l xs) : s.TypeIs (.ref l) "list" := x.isList.typeIs
theorem PL.kp {X : Addr → Prop} {s s' : Shared} {a : Addr} {xs : List Value} (k : Kp X s s') (hc : ¬ X a) (x : PL s.heap a xs) : PL s'.heap a xs :=
  let ⟨o, n, e, d⟩ := x; ⟨o, n, k.keep _ _ hc e, d⟩

theorem Vs.kp {X : Addr → Prop} {env : Env} {s s' : Shared} {bs : List (Str × Value)} (V : Vs env s.heap bs) (k : Kp X s s') (hX : ∀ a, X a → ¬ Own env a) : Vs env s'.heap bs := by
  have nl : ¬ X env.locals := fun q => hX _ q (.inl rfl)
  have nc : ∀ x c, env.cells.lookup x = some c → ¬ X c := fun x c e q => hX _ q (.inr ⟨x, e⟩)
  refine ⟨?_, fun x v e hk => ?_, fun x c e => ?_, V.inj⟩
  · obtain ⟨ml, a, b⟩ := V.ns
    exact ⟨ml, Ns.kp k nl a, b⟩
  · obtain ⟨c, hc, hv⟩ := V.cl x v e hk
    exact ⟨c, hc, IsCell.kp k (nc x c hc) hv⟩
  · obtain ⟨v, hv⟩ := V.cells x c e
    exact ⟨v, IsCell.kp k (nc x c e) hv⟩

section
variable {M : Model} {A : Around} {E : Value → Shared → Prop} {s : Shared} {env : Env} {bs : List (Str × Value)}

theorem Vs.load0 {x : Str} {v : Value} {Q : Value → Shared → Prop} (V : Vs env s.heap bs) (hv : bs.lookup x = some v) (h : Q v s) (hk : isVar (env.kindOf x) = true := by rfl) (hf : env.scope.kind = .function := by rfl)
    (hn : (x == ("__classdict__" : Str)) = false := by decide) : wpAny M A (loadName env x) Q E s := by
  cases e : env.kindOf x with
  | none => rw [e] at hk; cases hk
  | some k =>
    cases k with
    | «local» =>
      obtain ⟨ml, a, b⟩ := V.ns
      exact wpAny_loadName_local hf e a (b x v hv e) h
    | cell =>
      obtain ⟨c, hc, hv'⟩ := V.cl x v hv (.inl e)
      exact wpAny_loadName_cell hf e hc hv' h
    | free =>
      obtain ⟨c, hc, hv'⟩ := V.cl x v hv (.inr e)
      exact wpAny_loadName_free hf e hc hv' h hn
    | _ => rw [e] at hk; cases hk
theorem Vs.name0 {x : Str} {pos : Pos} {v : Value} {Q : Value → Shared → Prop} (V : Vs env s.heap bs) (hv : bs.lookup x = some v) (h : Q v s) (hk : isVar (env.kindOf x) = true := by rfl) (hf : env.scope.kind = .function := by rfl)
    (hn : (x == ("__classdict__" : Str)) = false := by decide) (hd : (x == ("__debug__" : Str)) = false := by decide) : wpAny M A (eval (.Name x pos) env) Q E s := wpAny_Name (V.load0 hv h hk hf hn) hd

theorem cell_ne_ns {h : Heap} {a c : Addr} {m : Str → Option Value} {v : Option Value} (x : h.Ns a m) (y : h.IsCell c v) : c ≠ a := fun q => by
  obtain ⟨o, es, ep, e, d, _⟩ := x
  obtain ⟨o', e', d'⟩ := y
  rw [q, e] at e'
  cases e'
  rw [d] at d'
  cases d'

theorem Vs.store0 {x : Str} {v : Value} {Q : Unit → Shared → Prop} (V : Vs env s.heap bs)
    (h : ∀ h' t, Vs env h' ((x, v) :: bs) → Kp (Own env) s { s with heap := h', toks := t } → Q () { s with heap := h', toks := t })
    (hk : isOwn (env.kindOf x) = true := by rfl) (hf : env.scope.kind = .function := by rfl) (hc : env.kindOf x = some .cell → (env.cells.lookup x).isSome = true := by intro q; first | cases q | rfl) : wpAny M A (storeName env x v) Q E s := by
  cases e : env.kindOf x with
  | none => rw [e] at hk; cases hk
  | some k =>
    cases k with
    | «local» =>
      obtain ⟨ml, a, b⟩ := V.ns
      refine wpAny_storeName_local e a (fun h' hn hs => ?_) (by rw [hf]; rfl)
      have k := Kp.same (X := Own env) (t := s.toks + 1) hs (.inl rfl)
      refine h h' _ ⟨⟨_, hn, fun y u hy hky => ?_⟩, fun y u hy hky => ?_, fun y c hc => ?_, V.inj⟩ k
      · rw [List.lookup_cons] at hy
        cases hb : y == x with
        | true => rw [hb] at hy; cases hy; rw [eq_of_beq hb]; simp
        | false =>
          rw [hb] at hy
          have : y ≠ x := fun q => by rw [q] at hb; simp at hb
          simp only [this, if_false]
          exact b y u hy hky
      · have : (y == x) = false := by
          cases hb : y == x with
          | false => rfl
          | true => rw [eq_of_beq hb, e] at hky; rcases hky with q | q <;> cases q
        rw [List.lookup_cons, this] at hy
        obtain ⟨c, hc, hv⟩ := V.cl y u hy hky
        obtain ⟨o, e1, d⟩ := hv
        exact ⟨c, hc, o, (hs.2 c (cell_ne_ns a ⟨o, e1, d⟩)).trans e1, d⟩
      · obtain ⟨v0, o, e1, d⟩ := V.cells y c hc
        exact ⟨v0, o, (hs.2 c (cell_ne_ns a ⟨o, e1, d⟩)).trans e1, d⟩
    | cell =>
      obtain ⟨c, hc⟩ := Option.isSome_iff_exists.mp (hc e)
      obtain ⟨v0, hv0⟩ := V.cells x c hc
      refine wpAny_storeName_cell hf e hc hv0 fun h' hn hs => ?_
      have k := Kp.same (X := Own env) (t := s.toks) hs (.inr ⟨x, hc⟩)
      refine h h' s.toks ⟨?_, fun y u hy hky => ?_, fun y c' hc' => ?_, V.inj⟩ k
      · obtain ⟨ml, a, b⟩ := V.ns
        refine ⟨ml, a.sameBut hs (cell_ne_ns a hv0).symm, fun y u hy hky => b y u ?_ hky⟩
        have : (y == x) = false := by
          cases hb : y == x with
          | false => rfl
          | true => rw [eq_of_beq hb, e] at hky; cases hky
        rw [List.lookup_cons, this] at hy
        exact hy
      · rw [List.lookup_cons] at hy
        cases hb : y == x with
        | true => rw [hb] at hy; cases hy; rw [eq_of_beq hb]; exact ⟨c, hc, hn⟩
        | false =>
          rw [hb] at hy
          obtain ⟨c', hc', o, e1, d⟩ := V.cl y u hy hky
          have : c' ≠ c := fun q => by
            rw [q] at hc'
            have := V.inj _ _ _ hc' hc
            rw [this] at hb; simp at hb
          exact ⟨c', hc', o, (hs.2 c' this).trans e1, d⟩
      · by_cases q : c' = c
        · subst q; exact ⟨_, hn⟩
        · obtain ⟨v1, o, e1, d⟩ := V.cells y c' hc'
          exact ⟨v1, o, (hs.2 c' q).trans e1, d⟩
    | _ => rw [e] at hk; cases hk
end

section
variable {M : Model} {A : Around} {E : Value → Shared → Prop} {s : Shared} {env : Env} {bs : List (Str × Value)} {hp : Heap}
theorem Vs.load {x : Str} {v : Value} {Q : Value → Shared → Prop} (V : Vs env hp bs) (hv : bs.lookup x = some v) (h : Q v s) (hhp : s.heap = hp := by rfl) (hk : isVar (env.kindOf x) = true := by rfl) (hf : env.scope.kind = .function := by rfl)
    (hn : (x == ("__classdict__" : Str)) = false := by decide) : wpAny M A (loadName env x) Q E s := by
  subst hhp; exact V.load0 hv h hk hf hn
theorem Vs.name {x : Str} {pos : Pos} {v : Value} {Q : Value → Shared → Prop} (V : Vs env hp bs) (hv : bs.lookup x = some v) (h : Q v s) (hhp : s.heap = hp := by rfl) (hk : isVar (env.kindOf x) = true := by rfl) (hf : env.scope.kind = .function := by rfl)
    (hn : (x == ("__classdict__" : Str)) = false := by decide) (hd : (x == ("__debug__" : Str)) = false := by decide) : wpAny M A (eval (.Name x pos) env) Q E s := by
  subst hhp; exact V.name0 hv h hk hf hn hd
/-- a name stored: sp is the last state with a name, s the same but for its tokens -/
theorem Vs.put {x : Str} {v : Value} {X : Addr → Prop} {s₀ sp : Shared} {Q : Unit → Shared → Prop} (V : Vs env sp.heap bs) (K : Kp X s₀ sp) (hX : ∀ a, Own env a → X a)
    (h : ∀ s', Vs env s'.heap ((x, v) :: bs) → Kp X s₀ s' → Kp (Own env) sp s' → Q () s') (hh : s.heap = sp.heap := by rfl) (hg : s.gens = sp.gens := by rfl) (ho : s.os = sp.os := by rfl)
    (hk : isOwn (env.kindOf x) = true := by rfl) (hf : env.scope.kind = .function := by rfl) (hc : env.kindOf x = some .cell → (env.cells.lookup x).isSome = true := by intro q; first | cases q | rfl) : wpAny M A (storeName env x v) Q E s := by
  rw [← hh] at V
  refine V.store0 (fun h' t V' k => ?_) hk hf hc
  have k' := k.un hh hg ho
  exact h _ V' (K.trans (k'.mono hX)) k'
theorem pl_get {prog : Program} {w : World} {l : Addr} {items : List Value} {k : Int} {t : Tok} {x : Value} {Q : Value → Shared → Prop} (hl : PL s.heap l items)
    (h0 : 0 ≤ k) (hfit : k < 2 ^ 63) (hx : items.toArray[k.toNat]? = some x) (h : Q x s) : wpAny (model prog w) A (getItem (.ref l) (.int k t)) Q E s := wpAny_getItem_list hl.isList h0 hfit hx h
/-- a list's item stored -/
theorem list_put {prog : Program} {w : World} {l : Addr} {items : List Value} {k : Int} {t : Tok} {v : Value} {X : Addr → Prop} {s₀ sp : Shared} {Q : Unit → Shared → Prop} (hl : PL sp.heap l items) (K : Kp X s₀ sp) (hX : X l) (h0 : 0 ≤ k) (hfit : k < 2 ^ 63) (hn : k < items.length)
    (h : ∀ s', PL s'.heap l (items.set k.toNat v) → Kp X s₀ s' → Kp (· = l) sp s' → Q () s') (hh : s.heap = sp.heap := by rfl) (hg : s.gens = sp.gens := by rfl) (ho : s.os = sp.os := by rfl) :
    wpAny (model prog w) A (setItem (.ref l) (.int k t) v) Q E s := by
  rw [← hh] at hl
  have hl' := hl.isList
  obtain ⟨o, ne, ho', hc, hdi, hd⟩ := id hl
  unfold setItem
  try with_reducible refine wpAny_holding ?_
  first | refine wpAny_bind (wpAny_pure ?_) | skip
  refine wpAny_bind (wpAny_sequenceKey hl'.typeIs (by decide) ?_)
  refine wpAny_bind (wpAny_callSpecial?_slot (name := Str.ofString "__setitem__") hl'.typeIs slot_list_setitem
    (wpAny_call_entry slot_list_setitem hl'.typeIs entry_list_setitem ?_ (args_list_setitem _ _ _)))
  show wpAny _ _ (Builtin.List.listSubscript? (.int k t) >>= _) _ _ s
  refine wpAny_bind (wpAny_listSubscript_int (fitsIndex_of h0 hfit) ?_)
  clear hfit
  obtain ⟨j, rfl⟩ := Int.eq_ofNat_of_zero_le h0
  have hj : j < items.toArray.size := by rw [List.size_toArray]; omega
  have hx' : items.toArray[j]? = some items.toArray[j] := Array.getElem?_eq_getElem hj
  show wpAny _ _ ((seqItemAt l j >>= fun r => pure (r.map (j, ·))) >>= _) _ _ s
  refine wpAny_bind (wpAny_bind (wpAny_seqItemAt ho' hd (wpAny_pure ?_)))
  rw [hx']
  show wpAny _ _ (setSeqItemAt l j v >>= _) _ _ s
  obtain ⟨n', hd'⟩ := Obj.data_mapSeq hd (·.setIfInBounds j v)
  have hdi' : (o.mapSeq (·.setIfInBounds j v)).dict = none := by
    obtain ⟨c, d, dt, sl⟩ := o
    cases dt <;> exact hdi
  have hfin : PL (s.heap.update l (Obj.mapSeq (·.setIfInBounds j v))) l (items.set j v) :=
    ⟨_, n', Heap.get?_update_self _ ho' (Obj.isFreed_of_seq hd'), (Obj.cls_mapSeq ..).trans hc, hdi', by rw [hd']; simp⟩
  have k' : Kp (· = l) sp { s with heap := s.heap.update l (Obj.mapSeq (·.setIfInBounds j v)) } := (Kp.same (X := (· = l)) (t := s.toks) (Heap.SameBut.update ..) rfl).un hh hg ho
  have hQ := h _ hfin (K.trans (k'.mono fun a q => by rw [q]; exact hX)) k'
  refine wpAny_bind (wpAny_setSeqItemAt ho' hd ?_)
  first
    | exact wpAny_bind (wpAny_pure (wpAny_pure ⟨.none, rfl, wpAny_pure hQ⟩))
    | exact wpAny_pure ⟨.none, rfl, wpAny_pure hQ⟩
end
/-- a frame without cells -/
theorem Vs.of {env : Env} {h : Heap} {bs : List (Str × Value)} {m : Str → Option Value} (hn : h.Ns env.locals m) (hm : ∀ x v, bs.lookup x = some v → m x = some v) (hk : env.scope.names.all (fun p => p.2 != .cell && p.2 != .free) = true) (hc : env.cells = []) : Vs env h bs := by
  have no : ∀ x k, env.kindOf x = some k → k ≠ .cell ∧ k ≠ .free := fun x k e => by
    have : ∀ (l : List (Str × NameKind)), l.all (fun p => p.2 != .cell && p.2 != .free) = true → l.lookup x = some k → k ≠ .cell ∧ k ≠ .free := by
      intro l
      induction l with
      | nil => intro _ e; cases e
      | cons p r ih =>
        intro ha e
        simp only [List.all_cons, Bool.and_eq_true] at ha
        rw [List.lookup_cons] at e
        cases hb : x == p.1 with
        | true => rw [hb] at e; cases e; simpa using ha.1
        | false => rw [hb] at e; exact ih ha.2 e
    exact this _ hk e
  refine ⟨⟨m, hn, fun x v e _ => hm x v e⟩, fun x v _ q => ?_, fun x c e => ?_, fun x y c e => ?_⟩
  · rcases q with q | q
    · exact absurd rfl (no x _ q).1
    · exact absurd rfl (no x _ q).2
  · rw [hc] at e; cases e
  · rw [hc] at e; cases e
end Mine
end

section
open PySem PySem.W PySem.Calls PyProof.Rows
namespace Mine

/-- all of H stands at s -/
def On (H : Heap) (s : Shared) : Prop := ∀ a o, H.get? a = some o → s.heap.get? a = some o
theorem On.kp {H : Heap} {X : Addr → Prop} {s s' : Shared} (h : On H s) (k : Kp X s s') (hX : ∀ a, X a → H.get? a = none) : On H s' :=
  fun a o e => k.keep a o (fun q => by rw [hX a q] at e; cases e) (h a o e)

theorem On.none {H : Heap} {s : Shared} {a : Addr} (h : On H s) (e : s.heap.get? a = none) : H.get? a = none := by
  cases q : H.get? a with
  | none => rfl
  | some o => rw [h _ _ q] at e; cases e
def fnNames : List (Str × Addr) := [("heapreplace", 21), ("heapify", 28), ("_siftdown", 35), ("_siftup", 42), ("nlargest", 48), ("_law_few", 55)]
def biNames : List Str := ["len", "reversed", "range", "iter", "object", "max", "TypeError", "AttributeError", "sorted", "zip", "min", "sum"]

/-- a plain def of the text stands at a -/
def FnAt (h : Heap) (a : Addr) (st : Stmt) : Prop :=
  ∃ o pm c, h.get? a = some o ∧ o.data = .func (docDef (sName st) (sArgs st) (sBody st) (sScope st) pm (.ref c) .none) ∧ h.CodeRec (.ref c) (sName st)
/-- a def of the text whose defaults are d stands at a -/
def FnAtD (h : Heap) (a : Addr) (st : Stmt) (d : Value) : Prop :=
  ∃ o pm c, h.get? a = some o ∧ o.data = .func { docDef (sName st) (sArgs st) (sBody st) (sScope st) pm (.ref c) .none with defaults := d } ∧ h.CodeRec (.ref c) (sName st)
theorem CodeRec.on {H : Heap} {s : Shared} {c : Value} {q : Str} (h : On H s) (x : H.CodeRec c q) : s.heap.CodeRec c q :=
  let ⟨c, o, vs, t, e, e1, r⟩ := x; ⟨c, o, vs, t, e, h _ _ e1, r⟩
theorem FnAt.on {H : Heap} {s : Shared} {a : Addr} {st : Stmt} (h : On H s) (x : FnAt H a st) : FnAt s.heap a st :=
  let ⟨o, pm, c, e, d, r⟩ := x; ⟨o, pm, c, h _ _ e, d, CodeRec.on h r⟩
theorem FnAtD.on {H : Heap} {s : Shared} {a : Addr} {st : Stmt} {d : Value} (h : On H s) (x : FnAtD H a st d) : FnAtD s.heap a st d :=
  let ⟨o, pm, c, e, dt, r⟩ := x; ⟨o, pm, c, h _ _ e, dt, CodeRec.on h r⟩
theorem Ns.on {H : Heap} {s : Shared} {a : Addr} {m : Str → Option Value} (h : On H s) (x : H.Ns a m) : s.heap.Ns a m :=
  let ⟨o, es, ep, e, r⟩ := x; ⟨o, es, ep, h _ _ e, r⟩

/-- what the walk knows of the ground -/
structure Gnd (H : Heap) : Prop where
  ex : ∃ mg mb, H.Ns mainGlobals mg ∧ H.Ns builtinsNs mb ∧ (∀ x a, fnNames.lookup x = some a → mg x = some (.ref a)) ∧ ∀ x ∈ biNames, mg x = none ∧ mb x = bootBuiltins x
  nolim : H.NoLimit
  siftdown : FnAt H 35 (fdef 3)
  siftup : FnAt H 42 (fdef 4)
  heapreplace : FnAt H 21 (fdef 1)
  heapify : FnAt H 28 (fdef 2)
  lawfew : FnAt H 55 (fdef 7)
  nlargest : FnAtD H 48 (fdef 5) (.ref 43)
  dflt : ∃ o n, H.get? 43 = some o ∧ o.data = .seq #[.none] n
theorem NoLimit.on {H : Heap} {s : Shared} (h : On H s) (x : H.NoLimit) : s.heap.NoLimit := let ⟨mc, a, b⟩ := x; ⟨mc, Ns.on h a, b⟩

section
variable {prog : Program} {w : World} {A : Around} {E : Value → Shared → Prop} {s : Shared} {env : Env} {H : Heap}

theorem gl_fn {x : Str} {a : Addr} {pos : Pos} {Q : Value → Shared → Prop} (G : Gnd H) (h : On H s) (hx : fnNames.lookup x = some a) (hq : Q (.ref a) s)
    (hk : env.kindOf x = some .globalImplicit := by rfl) (hf : env.scope.kind = .function := by rfl) (hg : env.globals = mainGlobals := by rfl) (hd : (x == ("__debug__" : Str)) = false := by decide) :
    wpAny (model prog w) A (eval (.Name x pos) env) Q E s := by
  obtain ⟨mg, mb, g, b, f, i⟩ := G.ex
  refine Name_function_global hf hk (loadGlobal_global (mg := mg) ?_ (f x a hx) hq) hd
  rw [hg]; exact Ns.on h g
theorem gl_bi {x : Str} {v : Value} {pos : Pos} {Q : Value → Shared → Prop} (G : Gnd H) (h : On H s) (hx : x ∈ biNames) (hv : bootBuiltins x = some v) (hq : Q v s)
    (hk : env.kindOf x = some .globalImplicit := by rfl) (hf : env.scope.kind = .function := by rfl) (hg : env.globals = mainGlobals := by rfl) (hb : env.builtins = builtinsNs := by rfl) (hd : (x == ("__debug__" : Str)) = false := by decide) :
    wpAny (model prog w) A (eval (.Name x pos) env) Q E s := by
  obtain ⟨mg, mb, g, b, f, i⟩ := G.ex
  refine Name_function_global hf hk (loadGlobal_builtin (mg := mg) (mb := mb) ?_ (i x hx).1 ?_ ((i x hx).2.trans hv) hq) hd
  · rw [hg]; exact Ns.on h g
  · rw [hb]; exact Ns.on h b

/-- a call of a plain def without cells -/
theorem call_fn {a : Addr} {st : Stmt} {args : List Value} {binds : List (Str × Value)} {Q : Value → Shared → Prop} (F : FnAt s.heap a st) (hl : s.heap.NoLimit) (hroom : A.depth < recursionLimit)
    (hb : ∀ pm c, bindArgs (docDef (sName st) (sArgs st) (sBody st) (sScope st) pm c .none) ⟨args, []⟩ = pure binds)
    (hloc : (binds.all fun x => decide ((sScope st).names.lookup x.1 = some .local)) = true)
    (hcell : (sScope st).names.all (fun p => p.2 != .cell && p.2 != .free) = true)
    (hco : (sScope st).isCoroutine = false) (hgen : (sScope st).isGenerator = false) (hk : (sScope st).kind = .function)
    (h : ∀ L cd s₁, Vs (envOf (sName st) (sScope st) L a cd) s₁.heap binds.reverse → Kp (fun _ => False) s s₁ → s.heap.get? L = none →
      wpAny (model prog w) (A.deeper (envOf (sName st) (sScope st) L a cd)) (execs (sBody st) (envOf (sName st) (sScope st) L a cd))
        (fun f s' => Q (match f with | .ret v => v | _ => .none) s') (fun _ _ => False) s₁) :
    wpAny (model prog w) A (call (.ref a) args) Q E s := by
  obtain ⟨o, pm, c, ho, hd, hc⟩ := F
  have hcell' : ∀ x ∈ (sScope st).names, x.2 ≠ .cell := fun x hx => by
    have := List.all_eq_true.mp hcell x hx
    simp only [Bool.and_eq_true] at this
    simpa using this.1
  refine wpAny_call (call_plain_ret hroom ho hd hl hc (hb pm (.ref c)) (locs hloc) (fun h₁ Fr1 => ?_) hco hgen hk hcell')
  refine wpAny_mono (h s.heap.objs.size (.ref c) _ (Vs.of Fr1.ns (fun x v e => e) hcell rfl) ⟨fun b o' _ e => Fr1.keep b o' e, rfl, rfl⟩ (get_fresh (Nat.le_refl _))) (fun f s' q => q) fun _ _ q => q.elim
theorem own_of {n : Str} {sc : Scope} {L a : Addr} {cd : Value} : ∀ b, Own (envOf n sc L a cd) b → b = L := fun b q => q.elim id fun ⟨x, e⟩ => by cases e
end

/-- heap's lists: what lt says of the values -/
def sd {α : Type} (lt : α → α → Bool) (new : α) (start : Nat) (xs : List α) (pos : Nat) : List α :=
  if start < pos then
    match xs[(pos - 1) / 2]? with
    | some p => if lt new p then sd lt new start (xs.set pos p) ((pos - 1) / 2) else xs.set pos new
    | none => xs
  else xs.set pos new
termination_by pos
decreasing_by omega

/-- the list at l holds tuples of ints; key tells them -/
structure TL (s : Shared) (l : Addr) (xs : List Value) (key : Value → List Int) : Prop where
  ls : PL s.heap l xs
  tup : ∀ v ∈ xs, TupOk s.heap v (key v)
  len : xs.length < 2 ^ 60
theorem TL.tup' {X : Addr → Prop} {s s' : Shared} {l : Addr} {xs : List Value} {key : Value → List Int} {v : Value} (T : TL s l xs key) (k : Kp X s s') (hX : ∀ a, X a → a = l ∨ s.heap.get? a = none) (hv : v ∈ xs) : TupOk s'.heap v (key v) := by
  refine (T.tup v hv).kp k fun a ha o e hc => ?_
  rcases hX a ha with q | q
  · obtain ⟨o', _, e', hc', _⟩ := T.ls
    rw [q, e'] at e
    cases e
    rw [hc'] at hc
    exact absurd hc (by decide)
  · rw [q] at e; cases e
theorem TL.kp {X : Addr → Prop} {s s' : Shared} {l : Addr} {xs ys : List Value} {key : Value → List Int} (T : TL s l xs key) (k : Kp X s s') (hX : ∀ a, X a → a = l ∨ s.heap.get? a = none) (hl : PL s'.heap l ys) (hy : ∀ v ∈ ys, v ∈ xs) (hn : ys.length = xs.length) : TL s' l ys key := by
  exact ⟨hl, fun v hv => T.tup' k hX (hy v hv), hn ▸ T.len⟩

section
variable {prog : Program} {w : World} {A : Around} {E : Value → Shared → Prop} {s : Shared}

theorem siftdown_call {H : Heap} {l : Addr} {xs : List Value} {key : Value → List Int} {start pos : Nat} {ts tp : Tok} {new : Value} {Q : Value → Shared → Prop} (G : Gnd H) (hH : On H s)
    (T : TL s l xs key) (hnew : xs[pos]? = some new) (hroom : A.depth < recursionLimit) (hu : A.units + 100 < cLine)
    (h : ∀ s', Kp (· = l) s s' → PL s'.heap l (sd (fun a b => lexLt (key a) (key b)) new start xs pos) → Q .none s') :
    wpAny (model prog w) A (call (.ref 35) [.ref l, .int start ts, .int pos tp]) Q E s := by
  refine call_fn (st := fdef 3) (binds := [("heap", .ref l), ("startpos", .int start ts), ("pos", .int pos tp)]) (G.siftdown.on hH) (NoLimit.on hH G.nolim) hroom (fun _ _ => rfl) rfl rfl rfl rfl rfl fun L cd s₁ V K hL => ?_
  have hpos : pos < xs.length := (List.getElem?_eq_some_iff.mp hnew).1
  have hxl := T.len
  have hmem : new ∈ xs := List.mem_of_getElem? hnew
  have hlL : l ≠ L := fun q => by
    obtain ⟨o, _, e, _⟩ := T.ls
    rw [q, hL] at e
    cases e
  have hX : ∀ a, Own (envOf (sName (fdef 3)) (sScope (fdef 3)) L 35 cd) a → a = l ∨ a = L := fun a q => .inr (own_of a q)
  have hXl : ¬ Own (envOf (sName (fdef 3)) (sScope (fdef 3)) L 35 cd) l := fun q => hlL (own_of _ q)
  have K : Kp (fun a => a = l ∨ a = L) s s₁ := K.mono fun _ q => q.elim
  have ls1 : PL s₁.heap l xs := by
    rename_i K0
    exact PL.kp K0 (fun q => q) T.ls
  refine wpAny_execs_cons (wpAny_Assign_Name (wpAny_Subscript_Name slot_list_getitem.lookup (V.name rfl (V.name rfl ⟨ls1.typeIs, pl_get (x := new) ls1 (by omega) (by omega) (by simpa using hnew) ?_⟩))))
  refine V.put K hX fun s₂ V₂ K2 k₂ => ?_
  dsimp only
  have ls2 : PL s₂.heap l xs := PL.kp k₂ hXl ls1
  have toTup : ∀ {s' : Shared} {v : Value}, Kp (fun a => a = l ∨ a = L) s s' → v ∈ xs → TupOk s'.heap v (key v) := fun k hv => T.tup' k (fun a q => q.imp id fun q => by rw [q]; exact hL) hv
  refine wpAny_execs_cons (wpAny_While (codeAny_whileLoop (fun n s' => ∃ xs' tp', n < xs'.length ∧ xs'.length = xs.length ∧ (∀ v ∈ xs', v ∈ xs) ∧
      sd (fun a b => lexLt (key a) (key b)) new start xs' n = sd (fun a b => lexLt (key a) (key b)) new start xs pos ∧
      Vs (envOf (sName (fdef 3)) (sScope (fdef 3)) L 35 cd) s'.heap [("heap", .ref l), ("startpos", .int start ts), ("pos", .int n tp'), ("newitem", new)] ∧
      PL s'.heap l xs' ∧ Kp (fun a => a = l ∨ a = L) s s') ?turn pos ⟨xs, tp, hpos, rfl, fun _ q => q, rfl, V₂.weak ⟨rfl, rfl, rfl, rfl, trivial⟩, ls2, K2⟩))
  rintro n s' ⟨xs', tp', hn, hlen, hsub, hsd, V, ls, K⟩
  have fin : xs'.set n new = sd (fun a b => lexLt (key a) (key b)) new start xs pos → ∀ {s'' : Shared} {bs : List (Str × Value)}, PL s''.heap l xs' → Kp (fun a => a = l ∨ a = L) s s'' →
      Vs (envOf (sName (fdef 3)) (sScope (fdef 3)) L 35 cd) s''.heap bs → Has bs [("heap", .ref l), ("startpos", .int start ts), ("pos", .int n tp'), ("newitem", new)] →
      wpAny (model prog w) (A.deeper (envOf (sName (fdef 3)) (sScope (fdef 3)) L 35 cd)) (execs ((sBody (fdef 3)).drop 2) (envOf (sName (fdef 3)) (sScope (fdef 3)) L 35 cd))
        (fun f s' => Q (match f with | .ret v => v | _ => .none) s') (fun _ _ => False) s'' := by
    intro e s'' bs ls K V hb
    have V := V.weak hb
    refine wpAny_execs_cons (wpAny_Assign_Subscript (V.name rfl (V.name rfl (V.name rfl (list_put ls K (.inl rfl) (by omega) (by omega) (by simpa using hn) fun s₃ ls₃ K₃ k₃ => ?_)))))
    refine wpAny_execs_nil (h _ (K₃.fresh fun a q => q.imp id fun q => by rw [q]; exact hL) ?_)
    rw [← e]; simpa using ls₃
  refine wpAny_isTrue_Compare1 (V.name rfl (V.name rfl (gt_int (wpAny_truthy_bool ?_))))
  by_cases hlt : start < n
  · rw [if_pos (by simpa using hlt)]
    have hpar : (n - 1) / 2 < xs'.length := by omega
    have hx2 : xs'[(n - 1) / 2]? = some xs'[(n - 1) / 2] := List.getElem?_eq_getElem hpar
    refine wpAny_execs_cons (wpAny_Assign_Name (wpAny_BinOp (wpAny_BinOp (V.name rfl (wpAny_Constant_int (sub_int ?_))))))
    refine wpAny_Constant_int (wpAny_rshift1_int (by omega) ?_)
    rw [show ((n : Int) - 1) / 2 = (((n - 1) / 2 : Nat) : Int) by omega]
    refine V.put K hX fun s₃ V₃ K₃ k₃ => ?_
    dsimp only
    have ls3 : PL s₃.heap l xs' := PL.kp k₃ hXl ls
    refine wpAny_execs_cons (wpAny_Assign_Name (wpAny_Subscript_Name slot_list_getitem.lookup (V₃.name rfl (V₃.name rfl ⟨ls3.typeIs, pl_get (x := xs'[(n - 1) / 2]) ls3 (by omega) (by omega) (by rw [Int.toNat_natCast, List.getElem?_toArray]; exact hx2) ?_⟩))))
    refine V₃.put K₃ hX fun s₄ V₄ K₄ k₄ => ?_
    dsimp only
    have ls4 : PL s₄.heap l xs' := PL.kp k₄ hXl ls3
    have hp : xs'[(n - 1) / 2] ∈ xs := hsub _ (List.getElem_mem _)
    refine wpAny_execs_cons (wpAny_If (wpAny_isTrue_Compare1 (V₄.name rfl (V₄.name rfl (tup_lt (x := key new) (y := key xs'[(n - 1) / 2]) ?_ (toTup K₄ hmem) (toTup K₄ hp) (wpAny_truthy_bool ?_))))))
    · show A.units + 3 < cLine; omega
    rw [sd, if_pos hlt, hx2] at hsd
    by_cases hc : lexLt (key new) (key xs'[(n - 1) / 2]) = true
    · rw [if_pos hc]
      refine wpAny_execs_cons (wpAny_Assign_Subscript (V₄.name rfl (V₄.name rfl (V₄.name rfl (list_put ls4 K₄ (.inl rfl) (by omega) (by omega) (by simpa using hn) fun s₅ ls₅ K₅ k₅ => ?_)))))
      dsimp only
      have V₅ := V₄.kp k₅ fun a q r => hlL (q ▸ own_of a r)
      refine wpAny_execs_cons (wpAny_Assign_Name (V₅.name rfl (V₅.put K₅ hX fun s₆ V₆ K₆ k₆ => ?_)))
      dsimp only
      refine wpAny_execs_cons (wpAny_Continue ?_)
      dsimp only
      have ls6 : PL s₆.heap l (xs'.set n xs'[(n - 1) / 2]) := by
        have := PL.kp k₆ hXl ls₅
        simpa using this
      refine ⟨(n - 1) / 2, by omega, xs'.set n xs'[(n - 1) / 2], _, by simpa using hpar, by simpa using hlen, fun v hv => ?_, ?_, V₆.weak ⟨rfl, rfl, rfl, rfl, trivial⟩, ls6, K₆⟩
      · rcases List.mem_or_eq_of_mem_set hv with q | q
        · exact hsub v q
        · rw [q]; exact hp
      · simpa [hc] using hsd
    · rw [if_neg hc]
      refine wpAny_execs_nil ?_
      dsimp only
      refine wpAny_execs_cons (wpAny_Break ?_)
      dsimp only
      refine fin ?_ ls4 K₄ V₄ ⟨rfl, rfl, rfl, rfl, trivial⟩
      simpa [hc] using hsd
  · rw [if_neg (by simpa using hlt)]
    refine wpAny_execs_nil (fin ?_ ls K V ⟨rfl, rfl, rfl, rfl, trivial⟩)
    rw [← hsd, sd, if_neg hlt]
end
end Mine
end

section
open PySem PySem.W PySem.Calls PyProof.Rows
namespace Mine

def child {α : Type} (lt : α → α → Bool) (xs : List α) (pos : Nat) : Nat :=
  match xs[2 * pos + 1]?, xs[2 * pos + 2]? with
  | some a, some b => if lt a b then 2 * pos + 1 else 2 * pos + 2
  | _, _ => 2 * pos + 1
theorem child_gt {α : Type} (lt : α → α → Bool) (xs : List α) (pos : Nat) : pos < child lt xs pos := by
  unfold child
  split
  · split <;> omega
  · omega
def su {α : Type} (lt : α → α → Bool) (xs : List α) (pos : Nat) : List α × Nat :=
  if 2 * pos + 1 < xs.length then
    match xs[child lt xs pos]? with
    | some v => su lt (xs.set pos v) (child lt xs pos)
    | none => (xs, pos)
  else (xs, pos)
termination_by xs.length - pos
decreasing_by
  have := child_gt lt xs pos
  simp only [List.length_set]
  omega
/-- the whole of _siftup -/
def sft {α : Type} (lt : α → α → Bool) (xs : List α) (pos : Nat) : List α :=
  match xs[pos]? with
  | some new => sd lt new pos ((su lt xs pos).1.set (su lt xs pos).2 new) (su lt xs pos).2
  | none => xs
theorem child_lt {α : Type} {lt : α → α → Bool} {xs : List α} {pos : Nat} (h : 2 * pos + 1 < xs.length) : child lt xs pos < xs.length := by
  unfold child
  split
  · rename_i a b e1 e2
    have := (List.getElem?_eq_some_iff.mp e2).1
    split <;> omega
  · exact h

section
variable {prog : Program} {w : World} {A : Around} {E : Value → Shared → Prop} {s : Shared}

theorem call_one {H : Heap} {env : Env} {x : Str} {id : String} {p pos : Pos} {e : PySem.Expr} {Q : Value → Shared → Prop} (G : Gnd H) (hH : On H s) (hx : x ∈ biNames) (hv : bootBuiltins x = some (.builtin id))
    (h : wpAny (model prog w) A (eval e env) (fun v s₁ => wpAny (model prog w) A (call (.builtin id) [v]) Q E s₁) E s) (hs : backTo pos (starEach [e] env) = [(false, eval e env)] := by rfl)
    (hk : env.kindOf x = some .globalImplicit := by rfl) (hf : env.scope.kind = .function := by rfl) (hg : env.globals = mainGlobals := by rfl) (hb : env.builtins = builtinsNs := by rfl) (hd : (x == ("__debug__" : Str)) = false := by decide) :
    wpAny (model prog w) A (eval (.Call (.Name x p) [e] [] pos) env) Q E s := by
  refine wpAny_Call_NameR (gl_bi G hH hx hv ?_ hk hf hg hb hd)
  rw [hs]
  exact callWith_builtin rfl (evalArgs_plain (spliced_cons (wpAny_mono h (fun v s₁ h₁ => spliced_nil h₁) fun _ _ q => q)))

theorem call_gl {H : Heap} {env : Env} {x : Str} {a : Addr} {st : Stmt} {p pos : Pos} {e : PySem.Expr} {rest : List PySem.Expr} {Q : Value → Shared → Prop} (G : Gnd H) (hH : On H s) (hx : fnNames.lookup x = some a) (hfn : FnAt H a st)
    (h : wpAny (model prog w) A (spliced (backTo pos (starEach (e :: rest) env))) (fun vs s₁ => On H s₁ ∧ wpAny (model prog w) A (call (.ref a) vs) Q E s₁) E s) (hs : backTo pos (starEach (e :: rest) env) = (false, eval e env) :: backTo pos (starEach rest env) := by rfl)
    (hk : env.kindOf x = some .globalImplicit := by rfl) (hf : env.scope.kind = .function := by rfl) (hg : env.globals = mainGlobals := by rfl) (hd : (x == ("__debug__" : Str)) = false := by decide) :
    wpAny (model prog w) A (eval (.Call (.Name x p) (e :: rest) [] pos) env) Q E s := by
  obtain ⟨o, pm, c, ho, hdt, hc⟩ := hfn
  refine wpAny_Call_NameR (gl_fn G hH hx ?_ hk hf hg hd)
  rw [hs] at h ⊢
  exact callWith_function (o := o) (evalArgs_plain (wpAny_mono h (fun vs s₁ h₁ => ⟨⟨h₁.1 _ _ ho, hdt⟩, h₁.2⟩) fun _ _ q => q))

theorem if_join {M : Model} {env : Env} {test : PySem.Expr} {body orelse : List Stmt} {pos : Pos} {Q : Flow → Shared → Prop} (J : Shared → Prop)
    (h : wpAny M A (isTrue test env (eval test env)) (fun b s₂ => if b then wpAny M A (execs body env) (fun f s' => f = .next ∧ J s') E s₂ else wpAny M A (execs orelse env) (fun f s' => f = .next ∧ J s') E s₂) E s)
    (hJ : ∀ s', J s' → Q .next s') : wpAny M A (exec (.If test body orelse pos) env) Q E s := by
  refine wpAny_If (wpAny_mono h (fun b s₂ q => ?_) fun _ _ q => q)
  cases b with
  | true => exact wpAny_mono q (fun f s' r => by obtain ⟨rfl, r⟩ := r; exact hJ s' r) fun _ _ q => q
  | false => exact wpAny_mono q (fun f s' r => by obtain ⟨rfl, r⟩ := r; exact hJ s' r) fun _ _ q => q

theorem siftup_call {H : Heap} {l : Addr} {xs : List Value} {key : Value → List Int} {pos : Nat} {tp : Tok} {Q : Value → Shared → Prop} (G : Gnd H) (hH : On H s) (hl : H.get? l = none)
    (T : TL s l xs key) (hpos : pos < xs.length) (hroom : A.depth + 10 < recursionLimit) (hu : A.units + 200 < cLine)
    (h : ∀ s', Kp (· = l) s s' → PL s'.heap l (sft (fun a b => lexLt (key a) (key b)) xs pos) → Q .none s') :
    wpAny (model prog w) A (call (.ref 42) [.ref l, .int pos tp]) Q E s := by
  refine call_fn (st := fdef 4) (binds := [("heap", .ref l), ("pos", .int pos tp)]) (G.siftup.on hH) (NoLimit.on hH G.nolim) (by omega) (fun _ _ => rfl) rfl rfl rfl rfl rfl fun L cd s₁ V K0 hL => ?_
  have hxl := T.len
  have hlL : l ≠ L := fun q => by
    obtain ⟨o, _, e, _⟩ := T.ls
    rw [q, hL] at e
    cases e
  have hX : ∀ a, Own (envOf (sName (fdef 4)) (sScope (fdef 4)) L 42 cd) a → a = l ∨ a = L := fun a q => .inr (own_of a q)
  have hXl : ¬ Own (envOf (sName (fdef 4)) (sScope (fdef 4)) L 42 cd) l := fun q => hlL (own_of _ q)
  have K : Kp (fun a => a = l ∨ a = L) s s₁ := K0.mono fun _ q => q.elim
  have ls1 : PL s₁.heap l xs := PL.kp K0 (fun q => q) T.ls
  have onH : ∀ {s' : Shared}, Kp (fun a => a = l ∨ a = L) s s' → On H s' := fun k => hH.kp k fun a q => by
    rcases q with q | q
    · rw [q]; exact hl
    · rw [q]; exact hH.none hL
  have toTup : ∀ {s' : Shared} {v : Value}, Kp (fun a => a = l ∨ a = L) s s' → v ∈ xs → TupOk s'.heap v (key v) := fun k hv => T.tup' k (fun a q => q.imp id fun q => by rw [q]; exact hL) hv
  have hnew : xs[pos]? = some xs[pos] := List.getElem?_eq_getElem hpos
  have hmem : xs[pos] ∈ xs := List.getElem_mem hpos
  refine wpAny_execs_cons (wpAny_Assign_Name (call_one G (onH K) (x := "len") (by decide) boot_len (V.name rfl (len_list ls1.isList (by simp; omega) ?_))))
  refine V.put K hX fun s₂ V₂ K₂ k₂ => ?_
  dsimp only
  refine wpAny_execs_cons (wpAny_Assign_Name (V₂.name rfl (V₂.put K₂ hX fun s₃ V₃ K₃ k₃ => ?_)))
  dsimp only
  have ls3 : PL s₃.heap l xs := PL.kp k₃ hXl (PL.kp k₂ hXl ls1)
  refine wpAny_execs_cons (wpAny_Assign_Name (wpAny_Subscript_Name slot_list_getitem.lookup (V₃.name rfl (V₃.name rfl ⟨ls3.typeIs, pl_get (x := xs[pos]) ls3 (by omega) (by omega) (by simp) ?_⟩))))
  refine V₃.put K₃ hX fun s₄ V₄ K₄ k₄ => ?_
  dsimp only
  have ls4 : PL s₄.heap l xs := PL.kp k₄ hXl ls3
  refine wpAny_execs_cons (wpAny_Assign_Name (wpAny_BinOp (wpAny_BinOp (wpAny_Constant_int (V₄.name rfl (mul_int (wpAny_Constant_int (add_int ?_))))))))
  rw [show (2 * (pos : Int) + 1) = ((2 * pos + 1 : Nat) : Int) by omega]
  refine V₄.put K₄ hX fun s₅ V₅ K₅ k₅ => ?_
  dsimp only
  have ls5 : PL s₅.heap l xs := PL.kp k₅ hXl ls4
  refine wpAny_execs_cons (wpAny_While (codeAny_whileLoop (fun n s' => ∃ xs' p tp' te tc, n = xs.length - p ∧ p < xs'.length ∧ xs'.length = xs.length ∧ (∀ v ∈ xs', v ∈ xs) ∧
      su (fun a b => lexLt (key a) (key b)) xs' p = su (fun a b => lexLt (key a) (key b)) xs pos ∧
      Vs (envOf (sName (fdef 4)) (sScope (fdef 4)) L 42 cd) s'.heap [("heap", .ref l), ("startpos", .int pos tp), ("endpos", .int xs.length te), ("newitem", xs[pos]), ("pos", .int p tp'), ("childpos", .int ((2 * p + 1 : Nat) : Int) tc)] ∧
      PL s'.heap l xs' ∧ Kp (fun a => a = l ∨ a = L) s s') ?turn (xs.length - pos) ⟨xs, pos, tp, _, _, rfl, hpos, rfl, fun _ q => q, rfl, V₅.weak ⟨rfl, rfl, rfl, rfl, rfl, rfl, trivial⟩, ls5, K₅⟩))
  rintro n s' ⟨xs', p, tp', te, tc, rfl, hp, hlen, hsub, hsu, V, ls, K⟩
  refine wpAny_isTrue_Compare1 (V.name rfl (V.name rfl (lt_int (wpAny_truthy_bool ?_))))
  by_cases hlt : 2 * p + 1 < xs'.length
  · rw [if_pos (by simp only [decide_eq_true_eq]; omega)]
    refine wpAny_execs_cons (wpAny_Assign_Name (wpAny_BinOp (V.name rfl (wpAny_Constant_int (add_int ?_)))))
    rw [show (((2 * p + 1 : Nat) : Int) + 1) = ((2 * p + 2 : Nat) : Int) by omega]
    refine V.put K hX fun s₆ V₆ K₆ k₆ => ?_
    dsimp only
    have ls6 : PL s₆.heap l xs' := PL.kp k₆ hXl ls
    have hc1 : xs'[2 * p + 1]? = some xs'[2 * p + 1] := List.getElem?_eq_getElem hlt
    have hcl : child (fun a b => lexLt (key a) (key b)) xs' p < xs'.length := child_lt hlt
    have hcg := child_gt (fun a b => lexLt (key a) (key b)) xs' p
    have hcc : xs'[child (fun a b => lexLt (key a) (key b)) xs' p]? = some xs'[child (fun a b => lexLt (key a) (key b)) xs' p] := List.getElem?_eq_getElem hcl
    refine wpAny_execs_cons (if_join (fun s₇ => ∃ tc', Vs (envOf (sName (fdef 4)) (sScope (fdef 4)) L 42 cd) s₇.heap [("heap", .ref l), ("startpos", .int pos tp), ("endpos", .int xs.length te), ("newitem", xs[pos]), ("pos", .int p tp'), ("childpos", .int (child (fun a b => lexLt (key a) (key b)) xs' p : Nat) tc')] ∧
      PL s₇.heap l xs' ∧ Kp (fun a => a = l ∨ a = L) s s₇) ?_ ?_)
    · refine wpAny_isTrue_BoolOp (wpAny_allTrue_And_cons (wpAny_isTrue_Compare1 (V₆.name rfl (V₆.name rfl (lt_int (wpAny_truthy_bool ?_))))))
      by_cases hr : 2 * p + 2 < xs'.length
      · rw [if_pos (by simp only [decide_eq_true_eq]; omega)]
        have hc2 : xs'[2 * p + 2]? = some xs'[2 * p + 2] := List.getElem?_eq_getElem hr
        refine wpAny_allTrue_And_cons (wpAny_isTrue_Not (wpAny_isTrue_Compare1 ?_))
        refine wpAny_Subscript_Name slot_list_getitem.lookup (V₆.name rfl (V₆.name rfl ⟨ls6.typeIs, pl_get (x := xs'[2 * p + 1]) ls6 (by omega) (by omega) (by rw [Int.toNat_natCast, List.getElem?_toArray]; exact hc1) ?_⟩))
        refine wpAny_Subscript_Name slot_list_getitem.lookup (V₆.name rfl (V₆.name rfl ⟨ls6.typeIs, pl_get (x := xs'[2 * p + 2]) ls6 (by omega) (by omega) (by rw [Int.toNat_natCast, List.getElem?_toArray]; exact hc2) ?_⟩))
        refine tup_lt (by show A.units + 3 < cLine; omega) (toTup K₆ (hsub _ (List.getElem_mem _))) (toTup K₆ (hsub _ (List.getElem_mem _))) (wpAny_truthy_bool ?_)
        have hce : child (fun a b => lexLt (key a) (key b)) xs' p = if lexLt (key xs'[2 * p + 1]) (key xs'[2 * p + 2]) = true then 2 * p + 1 else 2 * p + 2 := by
          unfold child
          rw [hc1, hc2]
        by_cases hb : lexLt (key xs'[2 * p + 1]) (key xs'[2 * p + 2]) = true
        · rw [if_pos hb] at hce
          simp only [hb, Bool.not_true, Bool.false_eq_true, if_false]
          refine wpAny_execs_nil ⟨rfl, tc, ?_, ls6, K₆⟩
          rw [hce]
          exact V₆.weak ⟨rfl, rfl, rfl, rfl, rfl, rfl, trivial⟩
        · rw [if_neg hb] at hce
          simp only [Bool.not_eq_true] at hb
          simp only [hb, Bool.not_false, if_true]
          refine wpAny_allTrue_And_nil ?_
          rw [if_pos rfl]
          refine wpAny_execs_cons (wpAny_Assign_Name (V₆.name rfl (V₆.put K₆ hX fun s₇ V₇ K₇ k₇ => ?_)))
          refine wpAny_execs_nil ⟨rfl, ?_⟩
          rw [hce]
          exact ⟨_, V₇.weak ⟨rfl, rfl, rfl, rfl, rfl, rfl, trivial⟩, PL.kp k₇ hXl ls6, K₇⟩
      · rw [if_neg (by simp only [decide_eq_true_eq]; omega)]
        have hce : child (fun a b => lexLt (key a) (key b)) xs' p = 2 * p + 1 := by
          unfold child
          rw [hc1, List.getElem?_eq_none (by omega)]
        simp only [Bool.false_eq_true, if_false]
        refine wpAny_execs_nil ⟨rfl, tc, ?_, ls6, K₆⟩
        rw [hce]
        exact V₆.weak ⟨rfl, rfl, rfl, rfl, rfl, rfl, trivial⟩
    · rintro s₇ ⟨tc', V₇, ls7, K₇⟩
      dsimp only
      generalize hcd : child (fun a b => lexLt (key a) (key b)) xs' p = c at *
      refine wpAny_execs_cons (wpAny_Assign_Subscript (wpAny_Subscript_Name slot_list_getitem.lookup (V₇.name rfl (V₇.name rfl ⟨ls7.typeIs, pl_get (x := xs'[c]) ls7 (by omega) (by omega) (by rw [Int.toNat_natCast, List.getElem?_toArray]; exact hcc) ?_⟩))))
      refine V₇.name rfl (V₇.name rfl (list_put ls7 K₇ (.inl rfl) (by omega) (by omega) (by simpa using hp) fun s₈ ls₈ K₈ k₈ => ?_))
      dsimp only
      have V₈ := V₇.kp k₈ fun a q r => hlL (q ▸ own_of a r)
      refine wpAny_execs_cons (wpAny_Assign_Name (V₈.name rfl (V₈.put K₈ hX fun s₉ V₉ K₉ k₉ => ?_)))
      dsimp only
      refine wpAny_execs_cons (wpAny_Assign_Name (wpAny_BinOp (wpAny_BinOp (wpAny_Constant_int (V₉.name rfl (mul_int (wpAny_Constant_int (add_int ?_))))))))
      rw [show (2 * (c : Int) + 1) = ((2 * c + 1 : Nat) : Int) by omega]
      refine V₉.put K₉ hX fun s₁₀ V₁₀ K₁₀ k₁₀ => ?_
      dsimp only
      refine wpAny_execs_nil ?_
      have ls10 : PL s₁₀.heap l (xs'.set p xs'[c]) := by
        have := PL.kp k₁₀ hXl (PL.kp k₉ hXl ls₈)
        simpa using this
      refine ⟨xs.length - c, by omega, xs'.set p xs'[c], c, _, te, _, rfl, by simpa using hcl, by simpa using hlen, fun v hv => ?_, ?_, V₁₀.weak ⟨rfl, rfl, rfl, rfl, rfl, rfl, trivial⟩, ls10, K₁₀⟩
      · rcases List.mem_or_eq_of_mem_set hv with q | q
        · exact hsub v q
        · rw [q]; exact hsub _ (List.getElem_mem _)
      · rw [su, if_pos hlt, hcd, hcc] at hsu
        exact hsu
  · rw [if_neg (by simp only [decide_eq_true_eq]; omega)]
    refine wpAny_execs_nil ?_
    dsimp only
    rw [su, if_neg hlt] at hsu
    refine wpAny_execs_cons (wpAny_Assign_Subscript (V.name rfl (V.name rfl (V.name rfl (list_put ls K (.inl rfl) (by omega) (by omega) (by simpa using hp) fun s₆ ls₆ K₆ k₆ => ?_)))))
    dsimp only
    have V₆ := V.kp k₆ fun a q r => hlL (q ▸ own_of a r)
    have ls6 : PL s₆.heap l (xs'.set p xs[pos]) := by simpa using ls₆
    have T6 : TL s₆ l (xs'.set p xs[pos]) key := T.kp K₆ (fun a q => q.imp id fun q => by rw [q]; exact hL) ls6 (fun v hv => (List.mem_or_eq_of_mem_set hv).elim (hsub v) fun q => q ▸ hmem) (by simpa using hlen)
    refine wpAny_execs_cons (wpAny_Expr_any (call_gl (st := fdef 3) G (onH K₆) (x := "_siftdown") rfl G.siftdown (spliced_cons (V₆.name rfl (spliced_cons (V₆.name rfl (spliced_cons (V₆.name rfl (spliced_nil ?_)))))))))
    refine ⟨onH K₆, siftdown_call G (onH K₆) T6 (new := xs[pos]) (by simp [hp]) (by show A.depth + 1 < _; omega) (by show A.units + 3 + 100 < _; omega) fun s₇ k₇ ls₇ => ?_⟩
    dsimp only
    refine wpAny_execs_nil (h _ ?_ ?_)
    · exact (K₆.trans (k₇.mono fun a q => .inl q)).fresh fun a q => q.imp id fun q => by rw [q]; exact hL
    · rw [sft, hnew]
      dsimp only
      rw [← hsu]
      exact ls₇
end
end Mine
end

section
open PySem PySem.W PySem.Calls PyProof.Rows
namespace Mine

/-- nothing is turned -/
abbrev Nil : Addr → Prop := fun _ => False
theorem Kp.ext {X : Addr → Prop} {s : Shared} {h' : Heap} {t : Tok} {a : Addr} (hs : Heap.ExtBut a s.heap h') (ha : X a) : Kp X s { s with heap := h', toks := t } :=
  ⟨fun c o hc e => hs c o (fun q => hc (q ▸ ha)) e, rfl, rfl⟩

section
variable {prog : Program} {w : World} {A : Around} {E : Value → Shared → Prop} {s : Shared}

theorem sub_ri_reversed : isSubtype (.type "range_iterator") (.type "reversed") = pure false := by rw [isSubtype_type]; kernel_rfl

theorem call_range_reversed {r : Addr} {n : Int} {t u v : Tok} {Q : Value → Shared → Prop} (hr : IsRange s.heap r 0 n 1 t u v) (h0 : 0 ≤ n) (hn : n < 2 ^ 60)
    (h : Q (.ref s.heap.objs.size) { s with heap := s.heap.push { cls := .type "range_iterator", data := .fields #[rawInt (n - 1), rawInt n, rawInt (-1)] } }) : wpAny (model prog w) A (call (.builtin "range.__reversed__") [.ref r]) Q E s := by
  have hT : s.TypeIs (.ref r) "range" := ⟨_, hr, rfl⟩
  refine wpAny_call_entry F.slot_range_reversed hT F.entry_range_reversed ?_ (F.args_range_reversed_1 _)
  unfold Builtin.«range.__reversed__»
  refine wpAny_bind (wpAny_of_eq (a := Value.ref r) rfl ?_)
  unfold Builtin.Range.rangeFields
  refine wpAny_bind ?_
  refine wpAny_bind (wpAny_field hr rfl (x := .int 0 t) rfl ?_)
  refine wpAny_bind (wpAny_of_eq (a := some 0) rfl ?_)
  refine wpAny_bind (wpAny_field hr rfl (x := .int n u) rfl ?_)
  refine wpAny_bind (wpAny_of_eq (a := some n) rfl ?_)
  refine wpAny_bind (wpAny_field hr rfl (x := .int 1 v) rfl ?_)
  refine wpAny_bind (wpAny_of_eq (a := some 1) rfl ?_)
  refine wpAny_pure ?_
  dsimp only
  have hsz : Builtin.Range.rangeSize 0 n 1 = n := by
    unfold Builtin.Range.rangeSize
    simp only [show (1 : Int) > 0 from by decide, if_true]
    split <;> omega
  rw [hsz]
  have hsm : (Builtin.Range.rangeFitsLong 0 && Builtin.Range.rangeFitsLong n && Builtin.Range.rangeFitsLong 1 && Builtin.Range.rangeFitsLong (-1) && Builtin.Range.rangeFitsLong (0 - 1) && Builtin.Range.rangeFitsLong n) = true := by
    unfold Builtin.Range.rangeFitsLong
    simp only [Bool.and_eq_true, decide_eq_true_eq]
    omega
  rw [hsm]
  simp only [Bool.not_true, Bool.false_eq_true, if_false, if_true]
  refine wpAny_bind ?_
  unfold newFields
  refine wpAny_newObj_type (wpAny_pure ⟨_, rfl, ?_⟩)
  rw [show (0 : Int) + (n - 1) * 1 = n - 1 by omega]
  exact h

theorem code_reversed_range {r : Addr} {n : Int} {t u v : Tok} {Q₁ : Value → Shared → Prop} (hr : IsRange s.heap r 0 n 1 t u v) (h0 : 0 ≤ n) (hn : n < 2 ^ 60)
    (h : Q₁ (.ref s.heap.objs.size) { s with heap := s.heap.push { cls := .type "range_iterator", data := .fields #[rawInt (n - 1), rawInt n, rawInt (-1)] } }) :
    codeAny (model prog w) A (.call (.builtin "reversed.__new__") ⟨[.type "reversed", .ref r], []⟩) (wants Q₁ E) s := by
  have hT : s.TypeIs (.ref r) "range" := ⟨_, hr, rfl⟩
  refine codeAny_of_tree ?_
  show wpAny _ A.in1 (do checkBuiltinCall "reversed.__new__" ⟨[.type "reversed", .ref r], []⟩; again (.builtin "reversed.__new__" ⟨[.type "reversed", .ref r], []⟩)) _ _ s
  refine wpAny_bind (wpAny_of_eq (F.newCall_reversed_1 _) (wpAny_pure ⟨plainId_quiet F.plain_reversed_new _, codeAny_builtin F.entry_reversed_new ?_⟩))
  rw [Around.under_plainId F.plain_reversed_new _]
  unfold Builtin.«reversed.__new__»
  refine wpAny_bind (wpAny_of_eq (newClass_reversed _) ?_)
  try dsimp only
  refine wpAny_bind (wpAny_of_eq (a := ()) (by first | rfl | kernel_rfl) ?_)
  refine wpAny_bind (wpAny_of_eq (a := ()) (by first | rfl | kernel_rfl) ?_)
  try dsimp only
  refine wpAny_bind (wpAny_specialOf hT F.slot_range_reversed.lookup ?_)
  try dsimp only
  refine wpAny_bind (wpAny_of_eq (F.slot_range_reversed.bind _) ?_)
  try dsimp only
  rw [if_neg (show ¬ ((Value.builtin "range.__reversed__" == Value.none) = true) from Bool.false_ne_true)]
  refine wpAny_bind (wpAny_rule ?_)
  refine wpAny_bind (m := runValue (.call (.builtin "range.__reversed__") ⟨[.ref r], []⟩)) (show wpAny _ _ (call (.builtin "range.__reversed__") [.ref r]) _ _ _ from call_range_reversed hr h0 hn ?_)
  first
  | exact wpAny_pure h
  | exact wpAny_bind (wpAny_pure (wpAny_pure h))

theorem call_reversed_range {r : Addr} {n : Int} {t u v : Tok} {Q : Value → Shared → Prop} (hr : IsRange s.heap r 0 n 1 t u v) (h0 : 0 ≤ n) (hn : n < 2 ^ 60)
    (h : ∀ I s', s.heap.get? I = none → IsRangeIter s'.heap I (n - 1) n (-1) → Kp Nil s s' → Q (.ref I) s') : wpAny (model prog w) A (call (.type "reversed") [.ref r]) Q E s := by
  refine callType_other (U := "range_iterator") (Q₁ := fun obj s₁ => obj = .ref s.heap.objs.size ∧ s₁ = { s with heap := s.heap.push { cls := .type "range_iterator", data := .fields #[rawInt (n - 1), rawInt n, rawInt (-1)] } }) (by decide +kernel) F.create_reversed ⟨_, _, F.mro_reversed⟩ F.made_reversed sub_ri_reversed (F.typeCall_reversed_1 _) (code_reversed_range hr h0 hn ⟨rfl, rfl⟩) ?_
  rintro obj s₁ ⟨rfl, rfl⟩
  exact ⟨⟨_, Heap.get?_push_size _ rfl, rfl⟩, h _ _ (get_fresh (Nat.le_refl _)) (Heap.get?_push_size _ rfl) (Kp.push (t := s.toks) _)⟩

theorem call_type {H : Heap} {env : Env} {x : Str} {T : String} {p pos : Pos} {e : PySem.Expr} {rest : List PySem.Expr} {Q : Value → Shared → Prop} (G : Gnd H) (hH : On H s) (hx : x ∈ biNames) (hv : bootBuiltins x = some (.type T))
    (h : wpAny (model prog w) A (spliced (backTo pos (starEach (e :: rest) env))) (fun vs s₁ => wpAny (model prog w) A (call (.type T) vs) Q E s₁) E s) (he : starEach (e :: rest) env = (false, eval e env) :: starEach rest env := by rfl) (hpl : (backTo pos (starEach rest env)).any (·.1) = false := by rfl)
    (hk : env.kindOf x = some .globalImplicit := by rfl) (hf : env.scope.kind = .function := by rfl) (hg : env.globals = mainGlobals := by rfl) (hb : env.builtins = builtinsNs := by rfl) (hd : (x == ("__debug__" : Str)) = false := by decide) :
    wpAny (model prog w) A (eval (.Call (.Name x p) (e :: rest) [] pos) env) Q E s :=
  wpAny_Call_NameR (gl_bi G hH hx hv (callWith_type1 h he hpl) hk hf hg hb hd)

theorem call_range1 {n : Int} {t : Tok} {Q : Value → Shared → Prop} (h : ∀ r s' t' u, s.heap.get? r = none → IsRange s'.heap r 0 n 1 t' t u → Kp Nil s s' → Q (.ref r) s') :
    wpAny (model prog w) A (call (.type "range") [.int n t]) Q E s :=
  call_range_1 (h _ _ _ _ (get_fresh (Nat.le_refl _)) (Heap.get?_push_size _ rfl) (Kp.push (t := s.toks + 1 + 1) _))
end

/-- what heapify does, from place k downward -/
def hfy {α : Type} (lt : α → α → Bool) : Nat → List α → List α
  | 0, xs => xs
  | k + 1, xs => hfy lt k (sft lt xs k)

theorem sd_length {α : Type} (lt : α → α → Bool) (new : α) (start : Nat) : ∀ (pos : Nat) (xs : List α), (sd lt new start xs pos).length = xs.length := by
  intro pos
  induction pos using Nat.strongRecOn with
  | ind pos ih =>
    intro xs
    rw [sd]
    split
    · split
      · split
        · rw [ih _ (by omega)]; simp
        · simp
      · rfl
    · simp
theorem su_length {α : Type} (lt : α → α → Bool) (xs : List α) (pos : Nat) : (su lt xs pos).1.length = xs.length := by
  fun_induction su lt xs pos with
  | case1 xs pos h v e ih => rw [ih]; simp
  | case2 => rfl
  | case3 => rfl
theorem sft_length {α : Type} (lt : α → α → Bool) (xs : List α) (pos : Nat) : (sft lt xs pos).length = xs.length := by
  unfold sft
  split
  · rw [sd_length]; simp [su_length]
  · rfl
theorem sd_mem {α : Type} (lt : α → α → Bool) (new : α) (start : Nat) : ∀ (pos : Nat) (xs : List α) (v : α), v ∈ sd lt new start xs pos → v = new ∨ v ∈ xs := by
  intro pos
  induction pos using Nat.strongRecOn with
  | ind pos ih =>
    intro xs v hv
    have fin : v ∈ xs.set pos new → v = new ∨ v ∈ xs := fun q => (List.mem_or_eq_of_mem_set q).symm
    rw [sd] at hv
    split at hv
    · split at hv
      · rename_i p hp
        split at hv
        · rcases ih _ (by omega) _ _ hv with q | q
          · exact .inl q
          · rcases List.mem_or_eq_of_mem_set q with q | q
            · exact .inr q
            · exact .inr (q ▸ List.mem_of_getElem? hp)
        · exact fin hv
      · exact .inr hv
    · exact fin hv
theorem su_mem {α : Type} (lt : α → α → Bool) (xs : List α) (pos : Nat) (v : α) : v ∈ (su lt xs pos).1 → v ∈ xs := by
  fun_induction su lt xs pos with
  | case1 xs pos h u e ih =>
    intro hv
    rcases List.mem_or_eq_of_mem_set (ih hv) with q | q
    · exact q
    · exact q ▸ List.mem_of_getElem? e
  | case2 => exact id
  | case3 => exact id
theorem sft_mem {α : Type} (lt : α → α → Bool) (xs : List α) (pos : Nat) (v : α) (hv : v ∈ sft lt xs pos) : v ∈ xs := by
  unfold sft at hv
  split at hv
  · rename_i new e
    rcases sd_mem _ _ _ _ _ _ hv with q | q
    · exact q ▸ List.mem_of_getElem? e
    · rcases List.mem_or_eq_of_mem_set q with q | q
      · exact su_mem _ _ _ _ q
      · exact q ▸ List.mem_of_getElem? e
  · exact hv

section
variable {prog : Program} {w : World} {A : Around} {E : Value → Shared → Prop} {s : Shared}

theorem heapify_call {H : Heap} {l : Addr} {xs : List Value} {key : Value → List Int} {Q : Value → Shared → Prop} (G : Gnd H) (hH : On H s) (hl : H.get? l = none) (hh : A.handled = none)
    (T : TL s l xs key) (hroom : A.depth + 20 < recursionLimit) (hu : A.units + 300 < cLine)
    (h : ∀ s', Kp (· = l) s s' → PL s'.heap l (hfy (fun a b => lexLt (key a) (key b)) (xs.length / 2) xs) → Q .none s') :
    wpAny (model prog w) A (call (.ref 28) [.ref l]) Q E s := by
  refine call_fn (st := fdef 2) (binds := [("x", .ref l)]) (G.heapify.on hH) (NoLimit.on hH G.nolim) (by omega) (fun _ _ => rfl) rfl rfl rfl rfl rfl fun L cd s₁ V K0 hL => ?_
  have hxl := T.len
  have hls : ∃ o, s.heap.get? l = some o := let ⟨o, _, e, _⟩ := T.ls; ⟨o, e⟩
  have hlL : l ≠ L := fun q => by
    obtain ⟨o, e⟩ := hls
    rw [q, hL] at e
    cases e
  have ls1 : PL s₁.heap l xs := PL.kp K0 (fun q => q) T.ls
  have hXl : ¬ Own (envOf (sName (fdef 2)) (sScope (fdef 2)) L 28 cd) l := fun q => hlL (own_of _ q)
  have K1 : Kp (· = L) s s₁ := K0.mono fun _ q => q.elim
  refine wpAny_execs_cons (wpAny_Assign_Name (call_one G (hH.kp K0 fun _ q => q.elim) (x := "len") (by decide) boot_len (V.name rfl (len_list ls1.isList (by simp; omega) ?_))))
  refine V.put K1 (fun a q => own_of a q) fun s₂ V₂ K₂ k₂ => ?_
  dsimp only
  have on2 : On H s₂ := hH.kp K₂ fun a q => by rw [q]; exact hH.none hL
  refine wpAny_execs_cons (wpAny_For (call_type G on2 (x := "reversed") (by decide) boot_reversed (spliced_cons (call_type G on2 (x := "range") (by decide) boot_range (spliced_cons (wpAny_BinOp (V₂.name rfl (wpAny_Constant_int (floordiv_int (by decide) ?_)))))))))
  refine spliced_nil (call_range1 fun r s₃ t₃ u₃ hr hr3 k₃ => spliced_nil ?_)
  have hfd : (((xs.toArray.size : Nat) : Int).fdiv 2) = ((xs.length / 2 : Nat) : Int) := by
    rw [Int.fdiv_eq_ediv_of_nonneg _ (by decide)]
    simp
  rw [hfd] at hr3
  refine call_reversed_range hr3 (by omega) (by omega) fun I s₄ hI hI4 k₄ => ?_
  refine wpAny_pyIter_rangeiter hI4 ?_
  have K4 : Kp (fun a => a = l ∨ a = L ∨ a = I) s s₄ := ((K₂.trans (k₃.un.mono fun _ q => q.elim)).mono fun a q => .inr (.inl q)).trans (k₄.mono fun _ q => q.elim)
  have hsI : s.heap.get? I = none := by
    refine K₂.none (fun q => ?_) ((k₃.un (s := s₂)).none (fun q => q) hI)
    have e := (k₃.un (s := s₂)).none (fun q => q) hI
    obtain ⟨ml, ⟨o, es, ep, e2, _⟩, _⟩ := V₂.ns
    have e3 : s₂.heap.get? L = some o := e2
    rw [q] at e
    rw [e] at e3
    cases e3
  have hlI : l ≠ I := fun q => by
    obtain ⟨o, e⟩ := hls
    rw [q, hsI] at e
    cases e
  have hLI : L ≠ I := fun q => by
    have e := (k₃.un (s := s₂)).none (fun q => q) hI
    obtain ⟨ml, ⟨o, es, ep, e2, _⟩, _⟩ := V₂.ns
    have e3 : s₂.heap.get? L = some o := e2
    rw [q, e] at e3
    cases e3
  have k24 : Kp Nil s₂ s₄ := (k₃.un (s := s₂)).trans k₄
  have V₄ := V₂.kp k24 fun _ q => q.elim
  have ls4 : PL s₄.heap l xs := PL.kp k24 (fun q => q) (PL.kp k₂ hXl ls1)
  have onH : ∀ {s' : Shared}, Kp (fun a => a = l ∨ a = L ∨ a = I) s s' → On H s' := fun k => hH.kp k fun a q => by
    rcases q with q | q | q
    · rw [q]; exact hl
    · rw [q]; exact hH.none hL
    · rw [q]; exact hH.none hsI
  have fin : ∀ {s' : Shared}, Kp (fun a => a = l ∨ a = L ∨ a = I) s s' → Kp (· = l) s s' := fun k => k.fresh fun a q => by
    rcases q with q | q | q
    · exact .inl q
    · rw [q]; exact .inr hL
    · rw [q]; exact .inr hsI
  refine codeAny_forLoop (fun k s' => ∃ xs', IsRangeIter s'.heap I ((k : Int) - 1) k (-1) ∧ Vs (envOf (sName (fdef 2)) (sScope (fdef 2)) L 28 cd) s'.heap [("x", .ref l)] ∧ PL s'.heap l xs' ∧ k ≤ xs'.length ∧ xs'.length = xs.length ∧ (∀ v ∈ xs', v ∈ xs) ∧
    hfy (fun a b => lexLt (key a) (key b)) k xs' = hfy (fun a b => lexLt (key a) (key b)) (xs.length / 2) xs ∧ Kp (fun a => a = l ∨ a = L ∨ a = I) s s') ?turn (xs.length / 2) ⟨xs, hI4, V₄.weak ⟨rfl, trivial⟩, ls4, by omega, rfl, fun _ q => q, rfl, K4⟩
  rintro k s' ⟨xs', hit, V, ls, hk, hlen, hsub, hhf, K⟩
  cases k with
  | zero =>
    refine wpAny_pyNext_range_end hh hit (Int.le_refl _) fun h' hx => ?_
    dsimp only
    refine wpAny_execs_nil (wpAny_execs_nil (h _ ?_ ?_))
    · exact fin (K.trans (Kp.ext (t := s'.toks) hx (.inr (.inr rfl))))
    · rw [← hhf]
      obtain ⟨o, n, e, d⟩ := ls
      exact ⟨o, n, hx _ _ hlI e, d⟩
  | succ k =>
    refine wpAny_pyNext_range_item hit (by omega) fun h' hit' hs => ?_
    dsimp only
    have k5 : Kp (· = I) s' { s' with heap := h', toks := s'.toks + 1 } := Kp.same hs rfl
    have K5 := K.trans (k5.mono fun a q => Or.inr (Or.inr q))
    have V5 := V.kp k5 fun a q r => hLI (own_of a r ▸ q)
    have ls5 := PL.kp k5 hlI ls
    have hit5 : IsRangeIter ({ s' with heap := h', toks := s'.toks + 1 } : Shared).heap I ((k : Int) - 1) k (-1) := by
      rw [show (((k + 1 : Nat) : Int) - 1 + -1) = (k : Int) - 1 by omega, show (((k + 1 : Nat) : Int) - 1) = (k : Int) by omega] at hit'
      exact hit'
    rw [show (((k + 1 : Nat) : Int) - 1) = (k : Int) by omega]
    generalize { s' with heap := h', toks := s'.toks + 1 } = s₅ at k5 K5 V5 ls5 hit5 ⊢
    refine wpAny_assign_Name (V5.put K5 (fun a q => .inr (.inl (own_of a q))) fun s₆ V6 K6 k6 => ?_)
    have ls6 := PL.kp k6 hXl ls5
    have T6 : TL s₆ l xs' key := T.kp K6 (fun a q => by
      rcases q with q | q | q
      · exact .inl q
      · rw [q]; exact .inr hL
      · rw [q]; exact .inr hsI) ls6 hsub hlen
    refine wpAny_execs_cons (wpAny_Expr_any (call_gl (st := fdef 4) G (onH K6) (x := "_siftup") rfl G.siftup (spliced_cons (V6.name rfl (spliced_cons (V6.name rfl (spliced_nil ⟨onH K6, ?_⟩)))))))
    refine siftup_call G (onH K6) hl T6 (by omega) (by show A.depth + 1 + 10 < _; omega) (by show A.units + 3 + 200 < _; omega) fun s₇ k₇ ls₇ => ?_
    dsimp only
    refine wpAny_execs_nil ⟨k, by omega, sft (fun a b => lexLt (key a) (key b)) xs' k, ?_, ?_, ls₇, by rw [sft_length]; omega, by rw [sft_length]; exact hlen, fun v hv => hsub v (sft_mem _ _ _ _ hv), hhf, K6.trans (k₇.mono fun a q => .inl q)⟩
    · exact k₇.keep I _ (fun q => hlI q.symm) (k6.keep I _ (fun q => hLI (own_of _ q).symm) hit5)
    · exact (V6.kp k₇ fun a q r => hXl (q ▸ r)).weak ⟨rfl, trivial⟩
end
end Mine
end

section
open PySem PySem.W PySem.Calls PyProof.Rows
namespace Mine
section
variable {prog : Program} {w : World} {A : Around} {E : Value → Shared → Prop} {s : Shared}

theorem heapreplace_call {H : Heap} {l : Addr} {xs : List Value} {item first : Value} {key : Value → List Int} {Q : Value → Shared → Prop} (G : Gnd H) (hH : On H s) (hl : H.get? l = none)
    (T : TL s l xs key) (hi : TupOk s.heap item (key item)) (h0 : xs[0]? = some first) (hroom : A.depth + 20 < recursionLimit) (hu : A.units + 300 < cLine)
    (h : ∀ s', Kp (· = l) s s' → PL s'.heap l (sft (fun a b => lexLt (key a) (key b)) (xs.set 0 item) 0) → Q first s') :
    wpAny (model prog w) A (call (.ref 21) [.ref l, item]) Q E s := by
  refine call_fn (st := fdef 1) (binds := [("heap", .ref l), ("item", item)]) (G.heapreplace.on hH) (NoLimit.on hH G.nolim) (by omega) (fun _ _ => rfl) rfl rfl rfl rfl rfl fun L cd s₁ V K0 hL => ?_
  have hxl := T.len
  have hpos : 0 < xs.length := (List.getElem?_eq_some_iff.mp h0).1
  have hls : ∃ o, s.heap.get? l = some o := let ⟨o, _, e, _⟩ := T.ls; ⟨o, e⟩
  have hlL : l ≠ L := fun q => by
    obtain ⟨o, e⟩ := hls
    rw [q, hL] at e
    cases e
  have hX : ∀ a, Own (envOf (sName (fdef 1)) (sScope (fdef 1)) L 21 cd) a → a = l ∨ a = L := fun a q => .inr (own_of a q)
  have hXl : ¬ Own (envOf (sName (fdef 1)) (sScope (fdef 1)) L 21 cd) l := fun q => hlL (own_of _ q)
  have K : Kp (fun a => a = l ∨ a = L) s s₁ := K0.mono fun _ q => q.elim
  have ls1 : PL s₁.heap l xs := PL.kp K0 (fun q => q) T.ls
  have onH : ∀ {s' : Shared}, Kp (fun a => a = l ∨ a = L) s s' → On H s' := fun k => hH.kp k fun a q => by
    rcases q with q | q
    · rw [q]; exact hl
    · rw [q]; exact hH.none hL
  refine wpAny_execs_cons (wpAny_Assign_Name (Subscript_ (V.name rfl (wpAny_Constant_int (tail_any ls1.typeIs slot_list_getitem.lookup (pl_get (x := first) ls1 (by decide) (by decide) (by simpa using h0) ?_) rfl)))))
  refine V.put K hX fun s₂ V₂ K₂ k₂ => ?_
  dsimp only
  have ls2 : PL s₂.heap l xs := PL.kp k₂ hXl ls1
  refine wpAny_execs_cons (wpAny_Assign_Subscript (V₂.name rfl (V₂.name rfl (wpAny_Constant_int (list_put ls2 K₂ (.inl rfl) (by decide) (by decide) (by simpa using hpos) fun s₃ ls₃ K₃ k₃ => ?_)))))
  dsimp only
  have V₃ := V₂.kp k₃ fun a q r => hXl (q ▸ r)
  have ls3 : PL s₃.heap l (xs.set 0 item) := by simpa using ls₃
  have T3 : TL s₃ l (xs.set 0 item) key := by
    refine ⟨ls3, fun v hv => ?_, by simpa using hxl⟩
    have hX' : ∀ a, a = l ∨ a = L → a = l ∨ s.heap.get? a = none := fun a q => q.imp id fun q => by rw [q]; exact hL
    rcases List.mem_or_eq_of_mem_set hv with q | q
    · exact T.tup' K₃ hX' q
    · rw [q]
      refine hi.kp K₃ fun a ha o e hc => ?_
      rcases hX' a ha with q | q
      · obtain ⟨o', _, e', hc', _⟩ := T.ls
        rw [q, e'] at e
        cases e
        rw [hc'] at hc
        exact absurd hc (by decide)
      · rw [q] at e; cases e
  have on3 : On H s₃ := onH K₃
  refine wpAny_execs_cons (wpAny_Expr_any (call_gl (st := fdef 4) G (onH K₃) (x := "_siftup") rfl G.siftup (spliced_cons (V₃.name rfl (spliced_cons (wpAny_Constant_int (k := 0) (pos := default) (spliced_nil ⟨on3, ?_⟩)))))))
  refine siftup_call (pos := 0) G on3 hl ⟨T3.ls, T3.tup, T3.len⟩ (by simpa using hpos) (by show A.depth + 1 + 10 < _; omega) (by show A.units + 3 + 200 < _; omega) fun s₄ k₄ ls₄ => ?_
  dsimp only
  have k34 := k₄.un (s := s₃)
  have V₄ := V₃.kp k34 fun a q r => hXl (q ▸ r)
  refine wpAny_execs_cons (wpAny_Return_some (V₄.name rfl (h _ ?_ ls₄)))
  exact (K₃.trans (k34.mono fun a q => .inl q)).fresh fun a q => q.imp id fun q => by rw [q]; exact hL
end
end Mine
end

section
open PySem PySem.W PySem.Calls PyProof.Rows
namespace Mine

theorem bindL_eq (kindOf : Str → Option NameKind) : ∀ (binds : List (Str × Value)) (m : Str → Option Value) (x : Str), kindOf x = some .local → bindL kindOf binds m x = (binds.reverse.lookup x).or (m x)
  | [], m, x, _ => rfl
  | (n, v) :: r, m, x, hx => by
    rw [bindL, bindL_eq kindOf r _ x hx, List.reverse_cons, List.lookup_append]
    cases e : r.reverse.lookup x with
    | some u => rfl
    | none =>
      simp only [Option.none_or]
      by_cases hb : x = n
      · subst hb
        rw [if_pos hx]
        simp
      · have hb' : (x == n) = false := by simpa using hb
        simp only [List.lookup_cons, hb', List.lookup_nil, Option.none_or]
        split
        · exact if_neg hb
        · rfl
theorem bindC_eq (kindOf : Str → Option NameKind) : ∀ (binds : List (Str × Value)) (m : Str → Option Value) (x : Str), kindOf x = some .cell → bindC kindOf binds m x = (binds.reverse.lookup x).or (m x)
  | [], m, x, _ => rfl
  | (n, v) :: r, m, x, hx => by
    rw [bindC, bindC_eq kindOf r _ x hx, List.reverse_cons, List.lookup_append]
    cases e : r.reverse.lookup x with
    | some u => rfl
    | none =>
      simp only [Option.none_or]
      by_cases hb : x = n
      · subst hb
        rw [if_neg (by rw [hx]; simp)]
        simp
      · have hb' : (x == n) = false := by simpa using hb
        simp only [List.lookup_cons, hb', List.lookup_nil, Option.none_or]
        split
        · rfl
        · exact if_neg hb

/-- no name of the scope is free -/
theorem kind_of_all {names : List (Str × NameKind)} {x : Str} {k : NameKind} (p : NameKind → Bool) (ha : names.all (fun q => p q.2) = true) (e : names.lookup x = some k) : p k = true := by
  induction names with
  | nil => cases e
  | cons q r ih =>
    simp only [List.all_cons, Bool.and_eq_true] at ha
    rw [List.lookup_cons] at e
    cases hb : x == q.1 with
    | true => rw [hb] at e; cases e; exact ha.1
    | false => rw [hb] at e; exact ih ha.2 e

section
variable {prog : Program} {w : World} {A : Around} {E : Value → Shared → Prop} {s : Shared}

/-- a call of a def with cells -/
theorem call_cells {a : Addr} {st : Stmt} {d : Value} {args : List Value} {kw : List (Str × Value)} {binds : List (Str × Value)} {Q : Value → Shared → Prop} (F : FnAtD s.heap a st d) (hl : s.heap.NoLimit) (hroom : A.depth < recursionLimit)
    (hb : ∀ pm c, BindsTo s { docDef (sName st) (sArgs st) (sBody st) (sScope st) pm c .none with defaults := d } ⟨args, kw⟩ binds)
    (hkind : (binds.all fun y => (sScope st).names.lookup y.1 == some .local || (sScope st).names.lookup y.1 == some .cell) = true)
    (hfree : (sScope st).names.all (fun p => p.2 != .free) = true)
    (hco : (sScope st).isCoroutine = false) (hgen : (sScope st).isGenerator = false) (hk : (sScope st).kind = .function)
    (h : ∀ L cd s₁, Vs (envOfC (sName st) (sScope st) L a cd) s₁.heap binds.reverse → Kp Nil s s₁ → (∀ b, Own (envOfC (sName st) (sScope st) L a cd) b → s.heap.get? b = none) →
      wpAny (model prog w) (A.deeper (envOfC (sName st) (sScope st) L a cd)) (execs (sBody st) (envOfC (sName st) (sScope st) L a cd))
        (fun f s' => Q (match f with | .ret v => v | _ => .none) s') (fun _ _ => False) s₁) :
    wpAny (model prog w) A (call (.ref a) args kw) Q E s := by
  obtain ⟨o, pm, c, ho, hd, hc⟩ := F
  refine wpAny_call (codeAny_call_function hroom ho hd hco hgen rfl hc (hb pm (.ref c) _ _ _ _ ?_))
  refine wpAny_newFunctionEnv_cells hk (kindsX hkind _) fun env henv s' X => ?_
  have henv' : env = envOfC (sName st) (sScope st) s.heap.objs.size a (.ref c) := henv
  subst henv'
  have hkp := X.toInCall.keep
  obtain ⟨h₁, tk, hs'⟩ := X.toInCall.same
  have K : Kp Nil s s' := ⟨fun b o' _ e => hkp b o' e, by rw [hs'], by rw [hs']⟩
  refine ⟨let ⟨mc, p, q⟩ := hl; ⟨mc, Ns.kp K (fun q => q) p, q⟩, codeAny_func (wpAny_mono (h _ (.ref c) s' ⟨⟨_, X.toInCall.ns, fun x v e hkx => ?_⟩, fun x v e hkx => ?_, fun x cc e => ⟨_, X.cell x cc e⟩, fun x y cc e1 e2 => name_of_addr X.apart (mem_of_lookup e1) (mem_of_lookup e2)⟩ K fun b q => ?_) (fun _ _ q => q) fun _ _ q => q.elim)⟩
  · rw [bindL_eq _ _ _ _ hkx, e]; rfl
  · have hcell : (envOfC (sName st) (sScope st) s.heap.objs.size a (.ref c)).kindOf x = some .cell := hkx.resolve_right fun q => by
      have := kind_of_all (fun k => k != .free) hfree q
      simp at this
    obtain ⟨cc, hcc⟩ := Option.isSome_iff_exists.mp (cellsFrom_some (x := x) (sScope st).names (s.heap.objs.size + 1) [] (.inl hcell))
    refine ⟨cc, hcc, ?_⟩
    have := X.cell x cc hcc
    rw [bindC_eq _ _ _ _ hcell, e] at this
    exact this
  · rcases q with q | ⟨x, q⟩
    · rw [q]; exact get_fresh X.toInCall.fresh
    · exact get_fresh (Nat.le_trans X.toInCall.fresh (Nat.le_of_lt (X.above x b (mem_of_lookup q))))
end
end Mine
end

section
open PySem PySem.W PySem.Calls PyProof.Rows
namespace Mine

/-- a list's iterator, spent -/
def Spent (h : Heap) (it : Addr) : Prop := ∃ (o : Obj) (i : Int) (t : Tok), h.get? it = some o ∧ o.cls = .type "list_iterator" ∧ o.data = .fields #[.none, .int i t]
/-- the iterator at it over the list at l has rest before it -/
def LIt (h : Heap) (it l : Addr) (rest : List Value) : Prop :=
  (∃ items i, h.IsListIter it l i ∧ h.IsList l items ∧ items.toList.drop i = rest) ∨ (rest = [] ∧ Spent h it)
theorem LIt.typeIs {s : Shared} {it l : Addr} {rest : List Value} (x : LIt s.heap it l rest) : s.TypeIs (.ref it) "list_iterator" := by
  rcases x with ⟨_, _, x, _⟩ | ⟨_, o, _, _, e, hc, _⟩
  · exact x.typeIs
  · exact ⟨o, e, hc⟩
theorem LIt.kp {X : Addr → Prop} {s s' : Shared} {it l : Addr} {rest : List Value} (k : Kp X s s') (h1 : ¬ X it) (h2 : ¬ X l) (x : LIt s.heap it l rest) : LIt s'.heap it l rest := by
  rcases x with ⟨items, i, ⟨o, e, r⟩, y, z⟩ | ⟨z, o, i, t, e, r⟩
  · exact .inl ⟨items, i, ⟨o, k.keep _ _ h1 e, r⟩, IsList.kp k h2 y, z⟩
  · exact .inr ⟨z, o, i, t, k.keep _ _ h1 e, r⟩
/-- e is a StopIteration -/
def Stop (h : Heap) (e : Value) : Prop := ∃ a o, e = .ref a ∧ h.get? a = some o ∧ o.cls = .type "StopIteration"

section
variable {prog : Program} {w : World} {A : Around} {E : Value → Shared → Prop} {s : Shared}

theorem stop_raise {α : Type} {Q : α → Shared → Prop} (hh : A.handled = none) (h : ∀ s' e, Stop s'.heap e → Kp Nil s s' → E e s') : wpAny (model prog w) A (newExc (.type "StopIteration") [] >>= fun e => raiseNew e) Q E s := by
  refine wpAny_bind ?_
  simp only [newExc, newTuple]
  refine wpAny_bind (wpAny_newObj_type ?_ (by size_fits))
  refine wpAny_bind (m := firstArgMember _ _) (wpAny_of_eq (a := Value.none) (by first | rfl | (simp only [firstArgMember]; rfl)) ?_)
  refine wpAny_newObj_type ?_ (by size_fits)
  simp only [raiseNew]
  refine wpAny_bind (wpAny_handled ?_)
  rw [hh]
  refine wpAny_bind (wpAny_pure (wpAny_throw ?_))
  refine h _ _ ⟨_, _, rfl, Heap.get?_push_size _ rfl, rfl⟩ ?_
  exact ⟨fun a o _ e => Heap.get?_push_of_some _ (Heap.get?_push_of_some _ e), rfl, rfl⟩

theorem li_item {it l : Addr} {x : Value} {r : List Value} {P : PySem.Fin → Shared → Prop} (hI : LIt s.heap it l (x :: r))
    (h : ∀ s', LIt s'.heap it l r → Kp (· = it) s s' → P (.done (.ret x)) s') : wpAny (model prog w) A (Builtin.«list_iterator.__next__» ⟨[.ref it], []⟩) P E s := by
  rcases hI with ⟨items, i, hit, hl, hd0⟩ | ⟨q, _⟩
  · have hx : items[i]? = some x := by
      have : (items.toList.drop i)[0]? = some x := by rw [hd0]; rfl
      simpa using this
    have hr : items.toList.drop (i + 1) = r := by
      have : (items.toList.drop i).tail = r := by rw [hd0]; rfl
      rwa [List.tail_drop] at this
    obtain ⟨o, ho, hc, hd⟩ := id hit
    obtain ⟨ol, hol, hcl, nl, hdl⟩ := id hl
    have hne : l ≠ it := fun q => by
      rw [q, ho] at hol
      cases hol
      rw [hc] at hcl
      exact absurd hcl (by decide)
    show wpAny _ _ (field (.ref it) 0 >>= _) _ _ s
    refine wpAny_bind (wpAny_field ho hd (x := .ref l) rfl ?_)
    show wpAny _ _ (if (Value.ref l == Value.none) = true then _ else _) _ _ s
    rw [if_neg (show ¬ ((Value.ref l == Value.none) = true) from Bool.false_ne_true)]
    show wpAny _ _ (field (.ref it) 1 >>= _) _ _ s
    refine wpAny_bind (wpAny_field ho hd (x := .int i 0) rfl ?_)
    show wpAny _ _ (seqItems? (.ref l) >>= _) _ _ s
    refine wpAny_bind (wpAny_seqItems hol hdl ?_)
    simp only [Int.toNat_natCast, hx]
    refine wpAny_bind (wpAny_setField ho hd (by simp) (wpAny_pure (h _ ?_ (Kp.same (t := s.toks) (Heap.SameBut.update ..) rfl))))
    refine .inl ⟨items, i + 1, ⟨_, Heap.get?_update_self _ ho (Obj.isFreed_of_fields (Obj.data_mapFields hd _)), (Obj.cls_mapFields ..).trans hc, by
      rw [Obj.data_mapFields hd]; simp [rawInt]⟩, ?_, hr⟩
    exact ⟨ol, ((Heap.SameBut.update ..).2 l hne).trans hol, hcl, nl, hdl⟩
  · cases q

theorem li_end {it l : Addr} {P : PySem.Fin → Shared → Prop} (hh : A.handled = none) (hI : LIt s.heap it l [])
    (h : ∀ s' e, LIt s'.heap it l [] → Kp (· = it) s s' → Stop s'.heap e → E e s') : wpAny (model prog w) A (Builtin.«list_iterator.__next__» ⟨[.ref it], []⟩) P E s := by
  rcases hI with ⟨items, i, hit, hl, hd0⟩ | ⟨_, o, i, t, ho, hc, hd⟩
  · have hx : items[i]? = none := by
      have : (items.toList.drop i)[0]? = none := by rw [hd0]; rfl
      simpa using this
    obtain ⟨o, ho, hc, hd⟩ := id hit
    obtain ⟨ol, hol, hcl, nl, hdl⟩ := id hl
    show wpAny _ _ (field (.ref it) 0 >>= _) _ _ s
    refine wpAny_bind (wpAny_field ho hd (x := .ref l) rfl ?_)
    show wpAny _ _ (if (Value.ref l == Value.none) = true then _ else _) _ _ s
    rw [if_neg (show ¬ ((Value.ref l == Value.none) = true) from Bool.false_ne_true)]
    show wpAny _ _ (field (.ref it) 1 >>= _) _ _ s
    refine wpAny_bind (wpAny_field ho hd (x := .int i 0) rfl ?_)
    show wpAny _ _ (seqItems? (.ref l) >>= _) _ _ s
    refine wpAny_bind (wpAny_seqItems hol hdl ?_)
    simp only [Int.toNat_natCast, hx]
    refine wpAny_bind (wpAny_rule (wpAny_bind (wpAny_setField ho hd (by simp) ?_)))
    refine stop_raise hh fun s' e he k => ?_
    have k0 : Kp (· = it) s _ := Kp.same (t := s.toks) (Heap.SameBut.update s.heap it (Obj.mapFields (·.setIfInBounds 0 .none))) rfl
    refine h s' e (.inr ⟨rfl, _, i, 0, k.keep _ _ (fun q => q) (Heap.get?_update_self _ ho (Obj.isFreed_of_fields (Obj.data_mapFields hd _))), (Obj.cls_mapFields ..).trans hc, by rw [Obj.data_mapFields hd]; simp⟩) (k0.trans (k.un.mono fun _ q => q.elim)) he
  · show wpAny _ _ (field (.ref it) 0 >>= _) _ _ s
    refine wpAny_bind (wpAny_field ho hd (x := .none) rfl ?_)
    show wpAny _ _ (if (Value.none == Value.none) = true then _ else _) _ _ s
    rw [if_pos (show (Value.none == Value.none) = true from rfl)]
    refine wpAny_bind (wpAny_rule ?_)
    refine wpAny_bind ?_
    refine stop_raise hh fun s' e he k => ?_
    exact h s' e (.inr ⟨rfl, o, i, t, k.keep _ _ (fun q => q) ho, hc, hd⟩) (k.mono fun _ q => q.elim) he

theorem next_item {it l : Addr} {x : Value} {r : List Value} {Q : Option Value → Shared → Prop} (hI : LIt s.heap it l (x :: r))
    (h : ∀ s', LIt s'.heap it l r → Kp (· = it) s s' → Q (some x) s') : wpAny (model prog w) A (pyNext (.ref it)) Q E s := by
  unfold pyNext
  refine wpAny_bind (wpAny_attempt (wpAny_callSpecial?_slot (name := Str.ofString "__next__") hI.typeIs slot_listiter_next
    (wpAny_call_entry slot_listiter_next hI.typeIs entry_listiter_next (li_item hI fun s' a b => ⟨x, rfl, wpAny_pure (h s' a b)⟩) (args_listiter_next _))))
theorem next_end {it l : Addr} {Q : Option Value → Shared → Prop} (hh : A.handled = none) (hI : LIt s.heap it l [])
    (h : ∀ s', LIt s'.heap it l [] → Kp (· = it) s s' → Q none s') : wpAny (model prog w) A (pyNext (.ref it)) Q E s := by
  unfold pyNext
  refine wpAny_bind (wpAny_attempt (wpAny_callSpecial?_slot (name := Str.ofString "__next__") hI.typeIs slot_listiter_next
    (wpAny_call_entry slot_listiter_next hI.typeIs entry_listiter_next (li_end hh hI fun s' e a b he => ?_) (args_listiter_next _))))
  obtain ⟨ea, o, rfl, ho, hc⟩ := he
  refine wpAny_bind (wpAny_isInstance (T := "StopIteration") (b := true) ⟨o, ho, hc⟩ isSubtype_stop ?_)
  exact wpAny_pure (h s' a b)
theorem nextOf_item {it l : Addr} {x : Value} {r : List Value} {Q : Value → Shared → Prop} (hI : LIt s.heap it l (x :: r))
    (h : ∀ s', LIt s'.heap it l r → Kp (· = it) s s' → Q x s') : wpAny (model prog w) A (Builtin.SmallTypes.nextOf (.ref it)) Q E s := by
  unfold Builtin.SmallTypes.nextOf
  exact wpAny_bind (wpAny_callSpecial?_slot (name := Str.ofString "__next__") hI.typeIs slot_listiter_next
    (wpAny_call_entry slot_listiter_next hI.typeIs entry_listiter_next (li_item hI fun s' a b => ⟨x, rfl, wpAny_pure (h s' a b)⟩) (args_listiter_next _)))
theorem nextOf_end {it l : Addr} {Q : Value → Shared → Prop} (hh : A.handled = none) (hI : LIt s.heap it l [])
    (h : ∀ s' e, LIt s'.heap it l [] → Kp (· = it) s s' → Stop s'.heap e → E e s') : wpAny (model prog w) A (Builtin.SmallTypes.nextOf (.ref it)) Q E s := by
  unfold Builtin.SmallTypes.nextOf
  exact wpAny_bind (wpAny_callSpecial?_slot (name := Str.ofString "__next__") hI.typeIs slot_listiter_next
    (wpAny_call_entry slot_listiter_next hI.typeIs entry_listiter_next (li_end hh hI h) (args_listiter_next _)))
theorem iter_li {it l : Addr} {r : List Value} {Q : Value → Shared → Prop} (hI : LIt s.heap it l r) (h : Q (.ref it) s) : wpAny (model prog w) A (pyIter (.ref it)) Q E s := by
  refine wpAny_pyIter_slot hI.typeIs slot_listiter_iter (wpAny_call_entry slot_listiter_iter hI.typeIs entry_listiter_iter ?_ (args_listiter_iter _))
  show wpAny _ _ (ret (.ref it)) _ _ s
  exact wpAny_pure ⟨_, rfl, "list_iterator", _, hI.typeIs, slot_listiter_next.lookup, h⟩
theorem iter_list {l : Addr} {xs : List Value} {Q : Value → Shared → Prop} (hl : s.heap.IsList l xs.toArray) (h : ∀ I s', s.heap.get? I = none → LIt s'.heap I l xs → Kp Nil s s' → Q (.ref I) s') : wpAny (model prog w) A (pyIter (.ref l)) Q E s := by
  refine wpAny_pyIter_list hl (h _ _ (get_fresh (Nat.le_refl _)) ?_ (Kp.push (t := s.toks) _))
  obtain ⟨o, e, r⟩ := hl
  exact .inl ⟨xs.toArray, 0, ⟨_, Heap.get?_push_size _ rfl, rfl, rfl⟩, ⟨o, Heap.get?_push_of_some _ e, r⟩, by simp⟩
end
end Mine
end

section
open PySem PySem.W PySem.Calls PyProof.Rows
namespace Mine

section
variable {prog : Program} {w : World} {A : Around} {E : Value → Shared → Prop} {s : Shared}

theorem rng_item {it : Addr} {x left step : Int} {Q : Value → Shared → Prop} (hit : IsRangeIter s.heap it x left step) (hleft : 0 < left)
    (h : ∀ s' t, IsRangeIter s'.heap it (x + step) (left - 1) step → Kp (· = it) s s' → s'.heap.objs.size = s.heap.objs.size → Q (.int x t) s') : wpAny (model prog w) A (Builtin.SmallTypes.nextOf (.ref it)) Q E s := by
  have hT : s.TypeIs (.ref it) "range_iterator" := ⟨_, hit, rfl⟩
  unfold Builtin.SmallTypes.nextOf
  refine wpAny_bind (wpAny_callSpecial?_slot (name := Str.ofString "__next__") hT F.slot_range_iterator_next
    (wpAny_call_entry F.slot_range_iterator_next hT F.entry_range_iterator_next ?_ (F.args_range_iterator_next_1 _)))
  show wpAny _ _ (field (.ref it) 0 >>= _) _ _ s
  refine wpAny_bind (wpAny_field hit rfl (x := rawInt x) rfl ?_)
  show wpAny _ _ (field (.ref it) 1 >>= _) _ _ s
  refine wpAny_bind (wpAny_field hit rfl (x := rawInt left) rfl ?_)
  show wpAny _ _ (field (.ref it) 2 >>= _) _ _ s
  refine wpAny_bind (wpAny_field hit rfl (x := rawInt step) rfl ?_)
  show wpAny _ _ (if left ≤ 0 then _ else _) _ _ s
  rw [if_neg (by omega)]
  refine wpAny_bind (wpAny_setField_rec hit (by simp) fun h₁ hz₁ hs₁ => ?_)
  refine wpAny_bind (wpAny_setField_rec hz₁ (by simp) fun h₂ hz₂ hs₂ => ?_)
  refine wpAny_ret_mkInt (wpAny_pure (h _ _ ?_ ?_ ?_))
  · exact hz₂
  · have k1 : Kp (· = it) s { s with heap := h₁ } := Kp.same (t := s.toks) hs₁ rfl
    exact k1.trans (Kp.same (X := (· = it)) (t := s.toks + 1) hs₂ rfl)
  · show h₂.objs.size = _; rw [hs₂.1, hs₁.1]
theorem rng_end {it : Addr} {x left step : Int} {Q : Value → Shared → Prop} (hh : A.handled = none) (hit : IsRangeIter s.heap it x left step) (hleft : left ≤ 0)
    (h : ∀ s' e, Kp Nil s s' → Stop s'.heap e → E e s') : wpAny (model prog w) A (Builtin.SmallTypes.nextOf (.ref it)) Q E s := by
  have hT : s.TypeIs (.ref it) "range_iterator" := ⟨_, hit, rfl⟩
  unfold Builtin.SmallTypes.nextOf
  refine wpAny_bind (wpAny_callSpecial?_slot (name := Str.ofString "__next__") hT F.slot_range_iterator_next
    (wpAny_call_entry F.slot_range_iterator_next hT F.entry_range_iterator_next ?_ (F.args_range_iterator_next_1 _)))
  show wpAny _ _ (field (.ref it) 0 >>= _) _ _ s
  refine wpAny_bind (wpAny_field hit rfl (x := rawInt x) rfl ?_)
  show wpAny _ _ (field (.ref it) 1 >>= _) _ _ s
  refine wpAny_bind (wpAny_field hit rfl (x := rawInt left) rfl ?_)
  show wpAny _ _ (field (.ref it) 2 >>= _) _ _ s
  refine wpAny_bind (wpAny_field hit rfl (x := rawInt step) rfl ?_)
  show wpAny _ _ (if left ≤ 0 then _ else _) _ _ s
  rw [if_pos hleft]
  refine wpAny_bind (wpAny_rule ?_)
  refine wpAny_bind ?_
  exact stop_raise hh fun s' e he k => h s' e k he
end

/-- a zip of a range and a list's iterator -/
structure Zp (h : Heap) (z TI TO i1 it l : Addr) (f0 : Value) (x left step : Int) (rest : List Value) : Prop where
  hz : IsZip h z TI TO f0
  hTI : IsPair h TI (.ref i1) (.ref it)
  hTO : ∃ a b, IsPair h TO a b
  r : IsRangeIter h i1 x left step
  li : LIt h it l rest
  TITO : TI ≠ TO
  lz : l ≠ z
  lTO : l ≠ TO
  li1 : l ≠ i1
  lit : l ≠ it
/-- what a zip's next may turn -/
def Zown (z TO i1 it : Addr) (a : Addr) : Prop := a = z ∨ a = TO ∨ a = i1 ∨ a = it

theorem ne_cls {h : Heap} {a b : Addr} {o o' : Obj} (T U : String) (e : h.get? a = some o) (e' : h.get? b = some o') (hc : o.cls = .type T := by rfl) (hc' : o'.cls = .type U := by rfl) (hTU : T ≠ U := by decide) : a ≠ b := fun q => by
  rw [q, e'] at e
  cases e
  rw [hc] at hc'
  cases hc'
  exact hTU rfl
theorem LIt.obj {h : Heap} {it l : Addr} {rest : List Value} (x : LIt h it l rest) : ∃ o, h.get? it = some o ∧ o.cls = .type "list_iterator" := by
  rcases x with ⟨_, _, ⟨o, e, hc, _⟩, _⟩ | ⟨_, o, _, _, e, hc, _⟩
  · exact ⟨o, e, hc⟩
  · exact ⟨o, e, hc⟩

section
variable {prog : Program} {w : World} {A : Around} {E : Value → Shared → Prop} {s : Shared}

theorem zp_item {z TI TO i1 it l : Addr} {x left step : Int} {v : Value} {r : List Value} {Q : Option Value → Shared → Prop} (Z : Zp s.heap z TI TO i1 it l .none x left step (v :: r)) (hleft : 0 < left)
    (h : ∀ (s' : Shared) (T : Addr) (t : Tok), Zp s'.heap z TI TO i1 it l (rawInt T) (x + step) (left - 1) step r → s.heap.get? T = none → IsPair s'.heap T (.int x t) v → Kp (Zown z TO i1 it) s s' → Q (some (.ref T)) s') :
    wpAny (model prog w) A (pyNext (.ref z)) Q E s := by
  obtain ⟨hz, hTI, ⟨a, b, hTO⟩, hr, hli, TITO, lz, lTO, li1, lit⟩ := Z
  obtain ⟨oi, hoi, hci⟩ := hli.obj
  have zTI : z ≠ TI := ne_cls "zip" "tuple" hz hTI
  have zTO : z ≠ TO := ne_cls "zip" "tuple" hz hTO
  have zi1 : z ≠ i1 := ne_cls "zip" "range_iterator" hz hr
  have zit : z ≠ it := ne_cls "zip" "list_iterator" hz hoi (hc' := hci)
  have i1TI : i1 ≠ TI := ne_cls "range_iterator" "tuple" hr hTI
  have i1TO : i1 ≠ TO := ne_cls "range_iterator" "tuple" hr hTO
  have i1it : i1 ≠ it := ne_cls "range_iterator" "list_iterator" hr hoi (hc' := hci)
  have itTI : it ≠ TI := ne_cls "list_iterator" "tuple" hoi hTI (hc := hci)
  have itTO : it ≠ TO := ne_cls "list_iterator" "tuple" hoi hTO (hc := hci)
  have hT : s.TypeIs (.ref z) "zip" := ⟨_, hz, rfl⟩
  unfold pyNext
  refine wpAny_bind (wpAny_attempt (wpAny_callSpecial?_slot (name := Str.ofString "__next__") hT F.slot_zip_next
    (wpAny_call_entry F.slot_zip_next hT F.entry_zip_next ?_ (F.args_zip_next_1 _))))
  show wpAny _ _ (field (.ref z) 2 >>= _) _ _ _
  refine wpAny_bind (wpAny_field hz rfl (x := .bool false) rfl ?_)
  show wpAny _ _ (field (.ref z) 3 >>= _) _ _ _
  refine wpAny_bind (wpAny_field hz rfl (x := .ref TI) rfl ?_)
  refine wpAny_bind (wpAny_seqItems hTI rfl ?_)
  show wpAny _ _ (Builtin.SmallTypes.ownedTupleIsFree (.ref z) >>= _) _ _ _
  refine wpAny_bind ?_
  unfold Builtin.SmallTypes.ownedTupleIsFree
  refine wpAny_bind (wpAny_field hz rfl (x := .none) rfl (wpAny_pure ?_))
  simp only [if_true]
  refine wpAny_bind (wpAny_rule ?_)
  refine wpAny_bind (wpAny_field hz rfl (x := .ref TO) rfl ?_)
  refine wpAny_bind (wpAny_setField_rec hz (by simp) fun h₁ hz₁ hs₁ => ?_)
  replace hz₁ : IsZip h₁ z TI TO .ellipsis := hz₁
  have k1 : Kp (Zown z TO i1 it) s { s with heap := h₁ } := Kp.same (t := s.toks) hs₁ (.inl rfl)
  have kz1 : Kp (· = z) s { s with heap := h₁ } := Kp.same (t := s.toks) hs₁ rfl
  generalize hS1 : ({ s with heap := h₁ } : Shared) = s1 at k1 kz1 ⊢
  have hz₁ : IsZip s1.heap z TI TO .ellipsis := by rw [← hS1]; exact hz₁
  refine wpAny_bind ?_
  simp only [List.zipIdx_cons, List.zipIdx_nil, List.forIn_cons, List.forIn_nil]
  refine wpAny_bind (wpAny_bind (wpAny_onRaise ?_))
  show wpAny _ _ (Builtin.SmallTypes.nextOf (.ref i1) >>= _) _ _ _
  refine wpAny_bind (rng_item (kz1.keep _ _ zi1.symm hr) hleft fun s2 t2 hr2 k2 _ => wpAny_pure ?_)
  have hTO2 : IsPair s2.heap TO a b := k2.keep _ _ i1TO.symm (kz1.keep _ _ zTO.symm hTO)
  refine wpAny_bind (wpAny_seqItems hTO2 rfl ?_)
  refine wpAny_bind (wpAny_updateSeq_pair hTO2 fun h₃ hTO₃ hs₃ => ?_)
  replace hTO₃ : IsPair h₃ TO (.int x t2) b := hTO₃
  refine wpAny_bind (wpAny_letGo (wpAny_pure ?_))
  have k3 : Kp (· = TO) s2 { s2 with heap := h₃ } := Kp.same (t := s2.toks) hs₃ rfl
  generalize hS3 : ({ s2 with heap := h₃ } : Shared) = s3 at k3 ⊢
  have hTO3 : IsPair s3.heap TO (.int x t2) b := by rw [← hS3]; exact hTO₃
  refine wpAny_bind (wpAny_bind (wpAny_onRaise ?_))
  show wpAny _ _ (Builtin.SmallTypes.nextOf (.ref it) >>= _) _ _ _
  have li3 : LIt s3.heap it l (v :: r) := LIt.kp k3 itTO lTO (LIt.kp k2 i1it.symm li1 (LIt.kp kz1 zit.symm lz hli))
  refine wpAny_bind (nextOf_item li3 fun s4 li4 k4 => wpAny_pure ?_)
  have hTO4 : IsPair s4.heap TO (.int x t2) b := k4.keep _ _ itTO.symm hTO3
  refine wpAny_bind (wpAny_seqItems hTO4 rfl ?_)
  refine wpAny_bind (wpAny_updateSeq_pair hTO4 fun h₅ hTO₅ hs₅ => ?_)
  replace hTO₅ : IsPair h₅ TO (.int x t2) v := hTO₅
  refine wpAny_bind (wpAny_letGo (wpAny_pure (wpAny_pure ?_)))
  have k5 : Kp (· = TO) s4 { s4 with heap := h₅ } := Kp.same (t := s4.toks) hs₅ rfl
  generalize hS5 : ({ s4 with heap := h₅ } : Shared) = s5 at k5 ⊢
  have hTO5 : IsPair s5.heap TO (.int x t2) v := by rw [← hS5]; exact hTO₅
  refine wpAny_bind (wpAny_seqItems hTO5 rfl ?_)
  refine wpAny_bind (wpAny_newTuple ?_)
  have up5 : ∀ c o, c ≠ z → c ≠ TO → c ≠ i1 → c ≠ it → s.heap.get? c = some o → s5.heap.get? c = some o := fun c o c1 c2 c3 c4 e =>
    k5.keep _ _ c2 (k4.keep _ _ c4 (k3.keep _ _ c2 (k2.keep _ _ c3 (kz1.keep _ _ c1 e))))
  have hz5 : IsZip s5.heap z TI TO .ellipsis := k5.keep _ _ zTO (k4.keep _ _ zit (k3.keep _ _ zTO (k2.keep _ _ zi1 hz₁)))
  have hr5 : IsRangeIter s5.heap i1 (x + step) (left - 1) step := k5.keep _ _ i1TO (k4.keep _ _ i1it (k3.keep _ _ i1TO hr2))
  have li5 : LIt s5.heap it l r := LIt.kp k5 itTO lTO li4
  have k05 : Kp (Zown z TO i1 it) s s5 := ⟨fun c o hc e => up5 c o (fun q => hc (.inl q)) (fun q => hc (.inr (.inl q))) (fun q => hc (.inr (.inr (.inl q)))) (fun q => hc (.inr (.inr (.inr q)))) e,
    by rw [k5.gens, k4.gens, k3.gens, k2.gens, kz1.gens], by rw [k5.os, k4.os, k3.os, k2.os, kz1.os]⟩
  have hfr : s5.heap.get? s5.heap.objs.size = none := get_fresh (Nat.le_refl _)
  show wpAny _ _ (Builtin.SmallTypes.ownedTupleHandOut (.ref z) (.ref s5.heap.objs.size) >>= _) _ _ _
  refine wpAny_bind ?_
  unfold Builtin.SmallTypes.ownedTupleHandOut
  have hz6 : IsZip (s5.heap.push { cls := .type "tuple", data := .seq #[.int x t2, v] }) z TI TO .ellipsis := Heap.get?_push_of_some _ hz5
  refine wpAny_bind (wpAny_setField_rec hz6 (by simp) fun h₇ hz₇ hs₇ => ?_)
  replace hz₇ : IsZip h₇ z TI TO (rawInt s5.heap.objs.size) := hz₇
  refine wpAny_setField_rec hz₇ (by simp) fun h₈ hz₈ hs₈ => ?_
  replace hz₈ : IsZip h₈ z TI TO (rawInt s5.heap.objs.size) := hz₈
  have up : ∀ c o, c ≠ z → s5.heap.get? c = some o → h₈.get? c = some o := fun c o c1 e => hs₈.extBut _ _ c1 (hs₇.extBut _ _ c1 (Heap.get?_push_of_some _ e))
  have hzlt : z < s5.heap.objs.size := Heap.lt_size hz5
  have hT8 : IsPair h₈ s5.heap.objs.size (.int x t2) v := hs₈.extBut _ _ (Nat.ne_of_gt hzlt) (hs₇.extBut _ _ (Nat.ne_of_gt hzlt) (Heap.get?_push_size _ rfl))
  have k58 : Kp (· = z) s5 { s5 with heap := h₈ } := ⟨fun c o hc e => up c o hc e, rfl, rfl⟩
  refine wpAny_pure ⟨_, rfl, wpAny_pure (h _ _ t2 ⟨hz₈, up _ _ zTI.symm (up5 _ _ zTI.symm TITO i1TI.symm itTI.symm hTI), ⟨_, _, up _ _ zTO.symm hTO5⟩, up _ _ zi1.symm hr5, LIt.kp k58 zit.symm lz li5, TITO, lz, lTO, li1, lit⟩ ?_ hT8 ?_)⟩
  · refine k05.none (fun q => ?_) hfr
    rcases q with q | q | q | q
    · rw [q, hz5] at hfr; cases hfr
    · rw [q, hTO5] at hfr; cases hfr
    · rw [q, hr5] at hfr; cases hfr
    · obtain ⟨o, e, _⟩ := li5.obj
      rw [q, e] at hfr; cases hfr
  · exact k05.trans (k58.mono fun _ q => .inl q)

theorem zp_end {z TI TO i1 it l : Addr} {x left step : Int} {rest : List Value} {Q : Option Value → Shared → Prop} (hh : A.handled = none) (Z : Zp s.heap z TI TO i1 it l .none x left step rest) (hend : left ≤ 0 ∨ rest = [])
    (h : ∀ s', LIt s'.heap it l rest → Kp (Zown z TO i1 it) s s' → Q none s') :
    wpAny (model prog w) A (pyNext (.ref z)) Q E s := by
  obtain ⟨hz, hTI, ⟨a, b, hTO⟩, hr, hli, TITO, lz, lTO, li1, lit⟩ := Z
  obtain ⟨oi, hoi, hci⟩ := hli.obj
  have zTI : z ≠ TI := ne_cls "zip" "tuple" hz hTI
  have zTO : z ≠ TO := ne_cls "zip" "tuple" hz hTO
  have zi1 : z ≠ i1 := ne_cls "zip" "range_iterator" hz hr
  have zit : z ≠ it := ne_cls "zip" "list_iterator" hz hoi (hc' := hci)
  have i1TO : i1 ≠ TO := ne_cls "range_iterator" "tuple" hr hTO
  have i1it : i1 ≠ it := ne_cls "range_iterator" "list_iterator" hr hoi (hc' := hci)
  have itTO : it ≠ TO := ne_cls "list_iterator" "tuple" hoi hTO (hc := hci)
  have hT : s.TypeIs (.ref z) "zip" := ⟨_, hz, rfl⟩
  have fin : ∀ (E' : Value → Shared → Prop) (s' : Shared) (e : Value), LIt s'.heap it l rest → Kp (Zown z TO i1 it) s s' → IsZip s'.heap z TI TO .ellipsis → Stop s'.heap e →
      wpAny (model prog w) A.in1 (setField (.ref z) 0 .none) (fun _ s'' => wpAny (model prog w) A (do if (← isInstance e (.type "StopIteration")) = true then pure none else throw e) Q E s'') E' s' := by
    intro E' s' e li' k' hz' he
    refine wpAny_setField_rec hz' (by simp) fun h₃ _ hs₃ => ?_
    obtain ⟨ea, oe, rfl, hoe, hce⟩ := he
    have ne : ea ≠ z := ne_cls "StopIteration" "zip" hoe hz' (hc := hce)
    refine wpAny_bind (wpAny_isInstance (T := "StopIteration") (b := true) ⟨oe, hs₃.extBut _ _ ne hoe, hce⟩ isSubtype_stop ?_)
    have k3 : Kp (· = z) s' { s' with heap := h₃ } := Kp.same (t := s'.toks) hs₃ rfl
    exact wpAny_pure (h _ (LIt.kp k3 zit.symm lz li') (k'.trans (k3.mono fun _ q => .inl q)))
  unfold pyNext
  refine wpAny_bind (wpAny_attempt (wpAny_callSpecial?_slot (name := Str.ofString "__next__") hT F.slot_zip_next
    (wpAny_call_entry F.slot_zip_next hT F.entry_zip_next ?_ (F.args_zip_next_1 _))))
  show wpAny _ _ (field (.ref z) 2 >>= _) _ _ _
  refine wpAny_bind (wpAny_field hz rfl (x := .bool false) rfl ?_)
  show wpAny _ _ (field (.ref z) 3 >>= _) _ _ _
  refine wpAny_bind (wpAny_field hz rfl (x := .ref TI) rfl ?_)
  refine wpAny_bind (wpAny_seqItems hTI rfl ?_)
  show wpAny _ _ (Builtin.SmallTypes.ownedTupleIsFree (.ref z) >>= _) _ _ _
  refine wpAny_bind ?_
  unfold Builtin.SmallTypes.ownedTupleIsFree
  refine wpAny_bind (wpAny_field hz rfl (x := .none) rfl (wpAny_pure ?_))
  simp only [if_true]
  refine wpAny_bind (wpAny_rule ?_)
  refine wpAny_bind (wpAny_field hz rfl (x := .ref TO) rfl ?_)
  refine wpAny_bind (wpAny_setField_rec hz (by simp) fun h₁ hz₁ hs₁ => ?_)
  replace hz₁ : IsZip h₁ z TI TO .ellipsis := hz₁
  have kz1 : Kp (· = z) s { s with heap := h₁ } := Kp.same (t := s.toks) hs₁ rfl
  generalize hS1 : ({ s with heap := h₁ } : Shared) = s1 at kz1 ⊢
  have hz₁ : IsZip s1.heap z TI TO .ellipsis := by rw [← hS1]; exact hz₁
  refine wpAny_bind ?_
  simp only [List.zipIdx_cons, List.zipIdx_nil, List.forIn_cons, List.forIn_nil]
  refine wpAny_bind (wpAny_bind (wpAny_onRaise ?_))
  show wpAny _ _ (Builtin.SmallTypes.nextOf (.ref i1) >>= _) _ _ _
  by_cases hlf : left ≤ 0
  · refine wpAny_bind (rng_end hh (kz1.keep _ _ zi1.symm hr) hlf fun s2 e k2 he => ?_)
    have k12 : Kp (· = z) s s2 := kz1.trans (k2.mono fun _ q => q.elim)
    exact fin _ s2 e (LIt.kp k12 zit.symm lz hli) (k12.mono fun _ q => .inl q) (k2.keep _ _ (fun q => q) hz₁) he
  · have hrest : rest = [] := hend.resolve_left hlf
    subst hrest
    refine wpAny_bind (rng_item (kz1.keep _ _ zi1.symm hr) (by omega) fun s2 t2 hr2 k2 _ => wpAny_pure ?_)
    have hTO2 : IsPair s2.heap TO a b := k2.keep _ _ i1TO.symm (kz1.keep _ _ zTO.symm hTO)
    refine wpAny_bind (wpAny_seqItems hTO2 rfl ?_)
    refine wpAny_bind (wpAny_updateSeq_pair hTO2 fun h₃ hTO₃ hs₃ => ?_)
    refine wpAny_bind (wpAny_letGo (wpAny_pure ?_))
    have k3 : Kp (· = TO) s2 { s2 with heap := h₃ } := Kp.same (t := s2.toks) hs₃ rfl
    generalize hS3 : ({ s2 with heap := h₃ } : Shared) = s3 at k3 ⊢
    refine wpAny_bind (wpAny_bind (wpAny_onRaise ?_))
    show wpAny _ _ (Builtin.SmallTypes.nextOf (.ref it) >>= _) _ _ _
    have li3 : LIt s3.heap it l [] := LIt.kp k3 itTO lTO (LIt.kp k2 i1it.symm li1 (LIt.kp kz1 zit.symm lz hli))
    refine wpAny_bind (nextOf_end hh li3 fun s4 e li4 k4 he => ?_)
    refine fin _ s4 e li4 ?_ (k4.keep _ _ zit (k3.keep _ _ zTO (k2.keep _ _ zi1 hz₁))) he
    exact (((kz1.mono fun _ q => Or.inl q).trans (k2.mono fun _ q => Or.inr (Or.inr (Or.inl q)))).trans (k3.mono fun _ q => Or.inr (Or.inl q))).trans (k4.mono fun _ q => Or.inr (Or.inr (Or.inr q)))
end
end Mine
end

section
open PySem PySem.W PySem.Calls PyProof.Rows
namespace Mine

section
variable {M : Model} {prog : Program} {w : World} {A : Around} {E : Value → Shared → Prop} {s : Shared}
theorem mk_obj {T : String} {data : Data} {Q : Value → Shared → Prop} (h : ∀ D s', s.heap.get? D = none → s'.heap.get? D = some { cls := .type T, data := data } → Kp Nil s s' → Q (.ref D) s') (hf : ({ cls := .type T, data := data } : Obj).isFreed = false := by rfl) (hd : sizeOk data := by size_fits) :
    wpAny M A (newObj (.type T) data) Q E s :=
  wpAny_newObj_type (h _ _ (get_fresh (Nat.le_refl _)) (Heap.get?_push_size _ hf) (Kp.push (t := s.toks) _)) hd
theorem mk_tuple {items : List Value} {Q : Value → Shared → Prop} (h : ∀ D s', s.heap.get? D = none → s'.heap.get? D = some { cls := .type "tuple", data := .seq items.toArray } → Kp Nil s s' → Q (.ref D) s') (hsz : items.length ≤ sizeLine := by size_fits) :
    wpAny M A (newTuple items) Q E s :=
  wpAny_newTuple (h _ _ (get_fresh (Nat.le_refl _)) (Heap.get?_push_size _ rfl) (Kp.push (t := s.toks) _)) hsz
theorem mk_list {items : List Value} {Q : Value → Shared → Prop} (h : ∀ D s', s.heap.get? D = none → s'.heap.get? D = some { cls := .type "list", data := .seq items.toArray } → Kp Nil s s' → Q (.ref D) s') (hsz : items.length ≤ sizeLine := by size_fits) :
    wpAny M A (newList items) Q E s :=
  wpAny_newObj_type (h _ _ (get_fresh (Nat.le_refl _)) (Heap.get?_push_size _ rfl) (Kp.push (t := s.toks) _)) (by show items.toArray.size ≤ sizeLine; rw [List.size_toArray]; exact hsz)
theorem iter_range {r : Addr} {a b c : Int} {t u v : Tok} {Q : Value → Shared → Prop} (hr : IsRange s.heap r a b c t u v) (hsm : Builtin.Range.small a b c = true)
    (h : ∀ I s', s.heap.get? I = none → IsRangeIter s'.heap I a (Builtin.Range.rangeSize a b c) c → Kp Nil s s' → Q (.ref I) s') : wpAny (model prog w) A (pyIter (.ref r)) Q E s :=
  wpAny_pyIter_range hr hsm (h _ _ (get_fresh (Nat.le_refl _)) (Heap.get?_push_size _ rfl) (Kp.push (t := s.toks) _))
end

theorem newClass_zip (a b : Value) : Builtin.SmallTypes.newClass "zip" ⟨[.type "zip", a, b], []⟩ = pure (.type "zip", [a, b]) := by
  unfold Builtin.SmallTypes.newClass
  simp only [isType, sub_zip, pure_bind, Bool.not_true, Bool.false_eq_true, if_false]

theorem zip_new (r it : Addr) : Meets (Builtin.«zip.__new__» ⟨[.type "zip", .ref r, .ref it], []⟩) (fun _ R s => ∃ (n : Int) (t u v : Tok) (l : Addr) (rest : List Value), IsRange s.heap r 0 (-n) (-1) t u v ∧ 0 < n ∧ n < 2 ^ 60 ∧ LIt s.heap it l rest ∧ (∃ o, s.heap.get? l = some o) ∧ l ≠ it ∧
    ∀ (s' : Shared) (z TI TO i1 : Addr), Zp s'.heap z TI TO i1 it l .none 0 n (-1) rest → s.heap.get? z = none → s.heap.get? TO = none → s.heap.get? i1 = none → Kp Nil s s' → R (.ok (.ret (.ref z))) s') :=
  .of_wp fun prog w A R s h => by
    obtain ⟨n, t, u, v, l, rest, hr, h0, hn, hli, ⟨ol, hol⟩, hlit, h⟩ := h
    unfold Builtin.«zip.__new__»
    refine wpAny_bind (wpAny_of_eq (newClass_zip _ _) ?_)
    simp only [List.length_nil, Nat.not_lt_zero, gt_iff_lt, if_false]
    unfold Builtin.SmallTypes.iterAll
    simp only [List.forIn_cons, List.forIn_nil]
    have hsz : Builtin.Range.rangeSize 0 (-n) (-1) = n := by
      unfold Builtin.Range.rangeSize
      simp only [show ¬ ((-1 : Int) > 0) from by decide, if_false]
      rw [if_pos (by omega), show (- -1 : Int) = 1 by decide]
      omega
    have hsm : Builtin.Range.small 0 (-n) (-1) = true := by
      unfold Builtin.Range.small Builtin.Range.rangeFitsLong
      rw [hsz]
      simp only [Bool.and_eq_true, decide_eq_true_eq, Bool.or_eq_true, show ¬ ((-1 : Int) > 0) from by decide, if_false]
      refine ⟨⟨⟨⟨by omega, by omega⟩, by omega⟩, by omega⟩, .inr (by omega)⟩
    refine wpAny_bind (wpAny_bind (wpAny_bind (wpAny_bind (wpAny_holding (iter_range hr hsm fun i1 s1 hf1 hr1 k1 => ?_)))))
    rw [hsz] at hr1
    refine wpAny_pure ?_
    have li1 := LIt.kp k1 (fun q => q) (fun q => q) hli
    have hol1 := k1.keep _ _ (fun q => q) hol
    refine wpAny_bind (wpAny_bind (wpAny_holding (iter_li li1 ?_)))
    refine wpAny_pure (wpAny_pure (wpAny_pure ?_))
    refine wpAny_bind (mk_tuple (items := [.ref i1, .ref it]) (fun TI s2 hf2 hTI2 k2 => ?_) (by show 2 ≤ sizeLine; decide +kernel))
    refine wpAny_bind (mk_tuple (items := [.none, .none]) (fun TO s3 hf3 hTO3 k3 => ?_) (by decide +kernel))
    refine wpAny_bind (show wpAny _ _ (newObj (.type "zip") (.fields #[.none, .bool false, .bool false, .ref TI, .ref TO])) _ _ _ from mk_obj fun z s4 hf4 hz4 k4 => ?_)
    have k14 : Kp Nil s1 s4 := (k2.trans k3).trans k4
    refine wpAny_pure ⟨_, rfl, h s4 z TI TO i1 ⟨hz4, k4.keep _ _ (fun q => q) (k3.keep _ _ (fun q => q) hTI2), ⟨_, _, k4.keep _ _ (fun q => q) hTO3⟩, k14.keep _ _ (fun q => q) hr1, LIt.kp k14 (fun q => q) (fun q => q) li1, ?_, ?_, ?_, ?_, hlit⟩ ?_ ?_ hf1 (k1.trans k14)⟩
    · intro q; rw [← q, hTI2] at hf3; cases hf3
    · intro q
      have := ((k2.trans k3).keep _ _ (fun q => q) hol1)
      rw [q, hf4] at this; cases this
    · intro q
      have := (k2.keep _ _ (fun q => q) hol1)
      rw [q, hf3] at this; cases this
    · intro q; rw [q, hf1] at hol; cases hol
    · exact ((k1.trans k2).trans k3).none (fun q => q) hf4
    · exact (k1.trans k2).none (fun q => q) hf3

section
variable {prog : Program} {w : World} {A : Around} {E : Value → Shared → Prop} {s : Shared}
theorem call_zip {r it l : Addr} {n : Int} {t u v : Tok} {rest : List Value} {Q : Value → Shared → Prop} (hr : IsRange s.heap r 0 (-n) (-1) t u v) (h0 : 0 < n) (hn : n < 2 ^ 60) (hli : LIt s.heap it l rest) (hol : ∃ o, s.heap.get? l = some o) (hlit : l ≠ it)
    (h : ∀ (s' : Shared) (z TI TO i1 : Addr), Zp s'.heap z TI TO i1 it l .none 0 n (-1) rest → s.heap.get? z = none → s.heap.get? TO = none → s.heap.get? i1 = none → Kp Nil s s' → Q (.ref z) s') :
    wpAny (model prog w) A (call (.type "zip") [.ref r, .ref it]) Q E s :=
  callType_new F.called_zip (by decide) (F.typeCall_zip_2 _ _) (F.newCall_zip_2 _ _) (fun obj => F.args_object_init_3 obj _ _) F.entry_zip_new (zip_new r it)
    ⟨n, t, u, v, l, rest, hr, h0, hn, hli, hol, hlit, fun s' z TI TO i1 Z a b c k => ⟨⟨_, Z.hz, rfl⟩, h s' z TI TO i1 Z a b c k⟩⟩
theorem call_range3 {a b c : Int} {t u v : Tok} {Q : Value → Shared → Prop} (hc : c ≠ 0) (hcs : c.natAbs < 1073741824) (h : ∀ r s' , s.heap.get? r = none → IsRange s'.heap r a b c t u v → Kp Nil s s' → Q (.ref r) s') :
    wpAny (model prog w) A (call (.type "range") [.int a t, .int b u, .int c v]) Q E s :=
  call_range_3 hc (h _ _ (get_fresh (Nat.le_refl _)) (Heap.get?_push_size _ rfl) (Kp.push (t := s.toks) _)) (.inl (PyProof.noPylong_small hcs))
end
end Mine
end

section
open PySem PySem.W PySem.Calls PyProof.Rows
namespace Mine

/-- a comprehension's frame -/
def compE (scope : Scope) (cl : List (Str × Addr)) (C : Addr) (env : Env) : Env :=
  { scope := relabel scope env, locals := C, globals := env.globals, cells := cellsFrom (C + 1) scope.names cl, qual := env.qual, func := none, code := env.code, frame := env.frame, builtins := env.builtins }

theorem cellsFrom_app : ∀ (names : List (Str × NameKind)) (n : Nat) (acc : List (Str × Addr)), cellsFrom n names acc = cellsFrom n names [] ++ acc
  | [], _, _ => rfl
  | (x, k) :: r, n, acc => by
    unfold cellsFrom
    split
    · rw [cellsFrom_app r (n + 1) ((x, n) :: acc), cellsFrom_app r (n + 1) [(x, n)]]; simp
    · exact cellsFrom_app r n acc
theorem cellsFrom_none {x : Str} : ∀ (names : List (Str × NameKind)) (n m : Nat), (cellsFrom n names []).lookup x = none → (cellsFrom m names []).lookup x = none
  | [], _, _, h => h
  | (y, k) :: r, n, m, h => by
    unfold cellsFrom at h ⊢
    split at h
    · rename_i hk
      rw [if_pos hk]
      rw [cellsFrom_app, List.lookup_append] at h ⊢
      have h1 := Option.or_eq_none_iff.mp h
      rw [cellsFrom_none r (n + 1) (m + 1) h1.1]
      have h2 := h1.2
      rw [List.lookup_cons] at h2 ⊢
      cases hb : x == y with
      | true => rw [hb] at h2; cases h2
      | false => rfl
    · rename_i hk
      rw [if_neg hk]
      exact cellsFrom_none r n m h

def isCF : Option NameKind → Bool
  | some .cell | some .free => true
  | _ => false
theorem isCF_or {k : Option NameKind} (h : isCF k = true) : k = some .cell ∨ k = some .free := by
  cases k with
  | none => cases h
  | some k => cases k <;> first | exact .inl rfl | exact .inr rfl | cases h
/-- what the comprehension sees of the frame around it -/
def FreeOk (scope : Scope) (cl : List (Str × Addr)) (env : Env) (bs : List (Str × Value)) : List (Str × Value) → Prop
  | [] => True
  | p :: r => (isCF ((relabel scope env).names.lookup p.1) = true ∧ isCF (env.kindOf p.1) = true ∧ bs.lookup p.1 = some p.2 ∧ (cl.lookup p.1).isSome = true ∧ (cellsFrom 0 scope.names []).lookup p.1 = none) ∧ FreeOk scope cl env bs r
theorem FreeOk.get {scope : Scope} {cl : List (Str × Addr)} {env : Env} {bs : List (Str × Value)} : ∀ {cs : List (Str × Value)}, FreeOk scope cl env bs cs → ∀ x v, cs.lookup x = some v →
    isCF ((relabel scope env).names.lookup x) = true ∧ isCF (env.kindOf x) = true ∧ bs.lookup x = some v ∧ (cl.lookup x).isSome = true ∧ (cellsFrom 0 scope.names []).lookup x = none
  | [], _, _, _, e => by cases e
  | (y, u) :: r, h, x, v, e => by
    rw [List.lookup_cons] at e
    cases hb : x == y with
    | true => rw [hb] at e; cases e; rw [eq_of_beq hb]; exact h.1
    | false => rw [hb] at e; exact FreeOk.get h.2 x v e
/-- the closure's cells are the frame's -/
def ClOk (env : Env) : List (Str × Addr) → Prop
  | [] => True
  | p :: r => env.cells.lookup p.1 = some p.2 ∧ ClOk env r
theorem ClOk.get {env : Env} : ∀ {cl : List (Str × Addr)}, ClOk env cl → ∀ x c, cl.lookup x = some c → env.cells.lookup x = some c
  | [], _, _, _, e => by cases e
  | (y, u) :: r, h, x, v, e => by
    rw [List.lookup_cons] at e
    cases hb : x == y with
    | true => rw [hb] at e; cases e; rw [eq_of_beq hb]; exact h.1
    | false => rw [hb] at e; exact ClOk.get h.2 x v e

section
variable {M : Model} {A : Around} {E : Value → Shared → Prop} {s : Shared}

theorem comp_env {scope : Scope} {cl : List (Str × Addr)} {env : Env} {bs cs : List (Str × Value)} {Q : Env → Shared → Prop} (V : Vs env s.heap bs) (hcl : ClOk env cl) (hcs : FreeOk scope cl env bs cs)
    (h : ∀ C s', s.heap.objs.size ≤ C → s.heap.get? C = none → (∀ a, Own (compE scope cl C env) a → Own env a ∨ s.heap.get? a = none) → Vs (compE scope cl C env) s'.heap cs → Kp Nil s s' →
      Q (newEnv scope C env.globals (cellsFrom (C + 1) scope.names cl) env.qual none .none (some env) builtinsNs) s') :
    wpAny M A (newFunctionEnv scope env.globals cl [] env.qual none .none (some env)) Q E s := by
  simp only [newFunctionEnv, Option.isSome_some, if_true]
  refine wpAny_bind (wpAny_alloc ?_)
  refine wpAny_bind (wpAny_layCells _ (fun name kind cells => by cases hkc : kind == NameKind.cell <;> simp [hkc]) _ _ _ _ ?_)
  have ok := cellsFrom_ok scope.names (s.heap.push { cls := .type "dict", data := .dict #[] }) (s.heap.objs.size + 1) [] ⟨fun _ _ hm => (nomatch hm), List.Pairwise.nil⟩ (by rw [Heap.size_push]; exact Nat.le_refl _)
  rw [Heap.size_push] at ok
  rw [show ({ s with heap := s.heap.push { cls := .type "dict", data := .dict #[] } } : Shared).heap.objs.size = s.heap.objs.size + 1 from Heap.size_push ..]
  simp only [List.forIn_nil]
  refine wpAny_bind (wpAny_pure (wpAny_pure ?_))
  have keep : ∀ b o, s.heap.get? b = some o → (pushCells (s.heap.push { cls := .type "dict", data := .dict #[] }) scope.names).get? b = some o := fun b o e => pushCells_keeps _ _ b o (Heap.get?_push_of_some _ e)
  have K : Kp Nil s { s with heap := pushCells (s.heap.push { cls := .type "dict", data := .dict #[] }) scope.names } := ⟨fun b o _ e => keep b o e, rfl, rfl⟩
  have look : ∀ x c, (cellsFrom (s.heap.objs.size + 1) scope.names cl).lookup x = some c → (cellsFrom (s.heap.objs.size + 1) scope.names []).lookup x = some c ∨ cl.lookup x = some c := fun x c e => by
    rw [cellsFrom_app, List.lookup_append] at e
    cases q : (cellsFrom (s.heap.objs.size + 1) scope.names []).lookup x with
    | some c' => rw [q] at e; exact .inl e
    | none => rw [q] at e; exact .inr e
  refine h s.heap.objs.size _ (Nat.le_refl _) (get_fresh (Nat.le_refl _)) (fun a q => ?_) ⟨⟨_, (Heap.Ns.new s.heap (.type "dict")).keeps (pushCells_keeps _ _), fun x v e hk => ?_⟩, fun x v e hk => ?_, fun x c e => ?_, fun x y c e1 e2 => ?_⟩ K
  · rcases q with q | ⟨x, q⟩
    · rw [q]; exact .inr (get_fresh (Nat.le_refl _))
    · rcases look x a q with q | q
      · exact .inr (get_fresh (Nat.le_of_lt (ok.empty x a (mem_of_lookup q)).2))
      · exact .inl (.inr ⟨x, hcl.get x a q⟩)
  · have := (hcs.get x v e).1
    have hk' : (relabel scope env).names.lookup x = some .local := hk
    rw [hk'] at this
    cases this
  · obtain ⟨a1, a2, a3, a4, a5⟩ := hcs.get x v e
    obtain ⟨c, hc⟩ := Option.isSome_iff_exists.mp a4
    obtain ⟨c', hc', hv⟩ := V.cl x v a3 (isCF_or a2)
    have e1 := hcl.get x c hc
    rw [hc'] at e1
    have e2 : c' = c := Option.some.inj e1
    rw [e2] at hv
    refine ⟨c, ?_, IsCell.kp K (fun q => q) hv⟩
    show (cellsFrom (s.heap.objs.size + 1) scope.names cl).lookup x = some c
    rw [cellsFrom_app, List.lookup_append, cellsFrom_none _ _ _ a5]
    exact hc
  · rcases look x c e with q | q
    · exact ⟨_, (ok.empty x c (mem_of_lookup q)).1⟩
    · obtain ⟨v, hv⟩ := V.cells x c (hcl.get x c q)
      exact ⟨v, IsCell.kp K (fun q => q) hv⟩
  · have old : ∀ x, cl.lookup x = some c → c < s.heap.objs.size := fun x q => by
      obtain ⟨v, o, e, _⟩ := V.cells x c (hcl.get x c q)
      exact Heap.lt_size e
    have new : ∀ x, (cellsFrom (s.heap.objs.size + 1) scope.names []).lookup x = some c → s.heap.objs.size < c := fun x q => (ok.empty x c (mem_of_lookup q)).2
    rcases look x c e1 with q1 | q1 <;> rcases look y c e2 with q2 | q2
    · exact name_of_addr ok.apart (mem_of_lookup q1) (mem_of_lookup q2)
    · exact absurd (old y q2) (Nat.not_lt.mpr (Nat.le_of_lt (new x q1)))
    · exact absurd (old x q1) (Nat.not_lt.mpr (Nat.le_of_lt (new y q2)))
    · exact V.inj x y c (hcl.get x c q1) (hcl.get y c q2)
end

section
variable {prog : Program} {w : World} {A : Around} {E : Value → Shared → Prop} {s : Shared}

/-- what one turn of a list comprehension must show -/
def CompTurn (prog : Program) (w : World) (A : Around) (cenv : Env) (target elt : PySem.Expr) (ifs : List PySem.Expr) (it : Value) (D : Addr) (fin : Shared → Prop) (I : Nat → Shared → Prop) (n : Nat) (s : Shared) : Prop :=
  ∀ E' : Value → Shared → Prop, wpAny (model prog w) A (pyNext it) (fun r s₁ => match r with
    | none => fin s₁
    | some v => wpAny (model prog w) A (letOwnedTupleGo target it v) (fun _ s₁' => wpAny (model prog w) A (assign target cenv v) (fun _ s₂ =>
        wpAny (model prog w) A (forIn ifs true fun c r => if r = true then do let ok ← isTrue c cenv (eval c cenv); pure (ForInStep.yield ok) else pure (ForInStep.yield r)) (fun ok s₃ =>
          if ok = true then wpAny (model prog w) A (eval elt cenv) (fun x s₄ =>
            wpAny (model prog w) A (call (.builtin "list.append") [.ref D, x]) (fun _ s₅ => ∃ m, m < n ∧ I m s₅) E' s₄) E' s₃
          else ∃ m, m < n ∧ I m s₃) E' s₂) E' s₁') E' s₁) E' s

theorem comp_loop {elt target iter : PySem.Expr} {ifs : List PySem.Expr} {scope : Scope} {pos : Pos} {it : Value} {D : Addr} {cenv : Env} {R : Result → Shared → Prop} (I : Nat → Shared → Prop)
    (turn : ∀ n s, I n s → CompTurn prog w A cenv target elt ifs it D (fun s₁ => R (.ok .next) s₁) I n s) (n : Nat) (h : I n s) :
    codeAny (model prog w) A (.compLoop (.ListComp elt [⟨target, iter, ifs, 0⟩] scope pos) 0 it (.ref D) cenv) R s := by
  refine codeAny_loop rfl I (fun n s hI => ?_) n h
  show wpAny _ A ((compTurn (.ListComp elt [⟨target, iter, ifs, 0⟩] scope pos) 0 it (.ref D) cenv).onRaise (fun x => do noteFrame x cenv; theTreesLotGoes x)) _ _ s
  refine wpAny_noted ?_
  rw [compTurn_list]
  refine wpAny_bind (wpAny_standAt (wpAny_bind (wpAny_mono (turn n s hI _) (fun r s₁ h₁ => ?_) fun _ _ h' => h')))
  cases r with
  | none => exact wpAny_pure h₁
  | some v =>
    refine wpAny_bind (wpAny_mono h₁ (fun _ s₁' h₁' => ?_) fun _ _ h' => h')
    refine wpAny_bind (wpAny_mono h₁' (fun _ s₂ h₂ => wpAny_bind (wpAny_mono h₂ (fun ok s₃ h₃ => ?_) fun _ _ h' => h')) fun _ _ h' => h')
    cases ok with
    | false => exact wpAny_pure ⟨rfl, h₃⟩
    | true =>
      exact wpAny_bind (wpAny_bind (wpAny_mono h₃ (fun x s₄ h₄ => wpAny_bind (wpAny_mono h₄ (fun _ s₅ h₅ => wpAny_pure (wpAny_pure ⟨rfl, h₅⟩)) fun _ _ h' => h')) fun _ _ h' => h'))

/-- a comprehension's setting: what is known when its loop begins -/
structure CompAt (env : Env) (scope : Scope) (cl : List (Str × Addr)) (cs : List (Str × Value)) (D C : Addr) (s₂ s₃ : Shared) : Prop where
  hD : s₂.heap.get? D = none
  hC : s₂.heap.get? C = none
  DC : D ≠ C
  own : ∀ a, Own (compE scope cl C env) a → Own env a ∨ (s₂.heap.get? a = none ∧ a ≠ D)
  V : Vs (compE scope cl C env) s₃.heap cs
  ls : PL s₃.heap D []
  K : Kp Nil s₂ s₃
  top : s₂.heap.objs.size ≤ C

theorem comp_core {elt target iter : PySem.Expr} {ifs : List PySem.Expr} {scope : Scope} {pos : Pos} {it : Value} {cl : List (Str × Addr)} {env : Env} {bs cs : List (Str × Value)} {RR : Value → Addr → Result → Shared → Prop} (V : Vs env s.heap bs) (hcl : ClOk env cl) (hcs : FreeOk scope cl env bs cs)
    (h : ∀ D C s₃, CompAt env scope cl cs D C s s₃ → (∀ (E' : Value → Shared → Prop) (Q' : Value → Shared → Prop), Q' it s₃ → wpAny (model prog w) A (pyIter it) Q' E' s₃) ∧ ∃ I n₀, I n₀ s₃ ∧ ∀ n s, I n s → CompTurn prog w A (compE scope cl C env) target elt ifs it D (fun s₁ => RR (.ref D) C (.ok .next) s₁) I n s) :
    wpAny (model prog w) A (newList []) (fun acc s₃ => wpAny (model prog w) A (newFunctionEnv scope env.globals cl [] env.qual none .none (some env)) (fun cenv s₄ =>
      codeAny (model prog w) A (.compStart (.ListComp elt [⟨target, iter, ifs, 0⟩] scope pos) 0 it acc { cenv with scope := relabel scope env }) (RR acc cenv.locals) s₄) E s₃) E s := by
  refine wpAny_newList ?_ (by show 0 ≤ sizeLine; omega)
  have hsz : s.heap.objs.size ≤ (s.heap.push { cls := .type "list", data := .seq (List.toArray ([] : List Value)) }).objs.size := by rw [Heap.size_push]; omega
  have hD : s.heap.get? s.heap.objs.size = none := get_fresh (Nat.le_refl _)
  have hD1 : (s.heap.push { cls := .type "list", data := .seq (List.toArray ([] : List Value)) }).get? s.heap.objs.size = some { cls := .type "list", data := .seq (List.toArray ([] : List Value)) } := Heap.get?_push_size _ rfl
  have k1 : Kp Nil s { s with heap := s.heap.push { cls := .type "list", data := .seq (List.toArray ([] : List Value)) } } := Kp.push (t := s.toks) _
  generalize hS1 : ({ s with heap := s.heap.push { cls := .type "list", data := .seq (List.toArray ([] : List Value)) } } : Shared) = s₁ at k1 ⊢
  have hsz : s.heap.objs.size ≤ s₁.heap.objs.size := by rw [← hS1]; exact hsz
  have hD1 : s₁.heap.get? s.heap.objs.size = some { cls := .type "list", data := .seq (List.toArray ([] : List Value)) } := by rw [← hS1]; exact hD1
  clear hS1
  generalize s.heap.objs.size = D at hD hD1 ⊢
  refine comp_env (V.kp k1 fun _ q => q.elim) hcl hcs fun C s₂ hCt hC hown V2 k2 => ?_
  show codeAny (model prog w) A (.compStart (.ListComp elt [⟨target, iter, ifs, 0⟩] scope pos) 0 it (.ref D) (compE scope cl C env)) (RR (.ref D) C) s₂
  obtain ⟨hit, I, n₀, h0, turn⟩ := h D C s₂ ⟨hD, k1.none (fun q => q) hC, (fun q => by rw [← q, hD1] at hC; cases hC), fun a q => (hown a q).imp id fun q => ⟨k1.none (fun q => q) q, (fun r => by rw [r, hD1] at q; cases q)⟩, V2, ⟨_, 0, k2.keep _ _ (fun q => q) hD1, rfl, rfl, rfl⟩, k1.trans k2, Nat.le_trans hsz hCt⟩
  exact codeAny_compStart_list (comp_loop I turn n₀ h0) (hit _ _ (comp_loop I turn n₀ h0))

theorem ns_of_vs {env : Env} {h : Heap} {bs : List (Str × Value)} (V : Vs env h bs) : ∃ m, h.Ns env.locals m := let ⟨m, a, _⟩ := V.ns; ⟨m, a⟩

/-- the value of a list comprehension -/
theorem comp_eval {elt target iter : PySem.Expr} {ifs : List PySem.Expr} {scope : Scope} {pos : Pos} {cl : List (Str × Addr)} {env : Env} {cs : List (Str × Value)} {Q : Value → Shared → Prop} (hclos : closureFor scope env = pure cl) (hcl : ClOk env cl)
    (h : wpAny (model prog w) A (eval iter env) (fun xv s₁ => wpAny (model prog w) A (pyIter xv) (fun it s₂ => ∃ bs, Vs env s₂.heap bs ∧ FreeOk scope cl env bs cs ∧ ∀ D C s₃, CompAt env scope cl cs D C s₂ s₃ →
      (∀ (E' : Value → Shared → Prop) (Q' : Value → Shared → Prop), Q' it s₃ → wpAny (model prog w) A (pyIter it) Q' E' s₃) ∧ ∃ I n₀, I n₀ s₃ ∧ ∀ n s, I n s → CompTurn prog w A (compE scope cl C env) target elt ifs it D
        (fun s₁ => (∃ m, s₁.heap.Ns C m) ∧ ∀ s', Kp (· = C) s₁ s' → Q (.ref D) s') I n s) E s₁) E s)
    (hkind : scope.kind = .function := by rfl) (hnames : (scope.names.all fun x => x.2 != .local || scope.names.lookup x.1 == some .local) = true := by rfl) (hs : ∀ x, foldedSetIterable iter env x = pure x := by intro _; rfl) :
    wpAny (model prog w) A (eval (.ListComp elt [⟨target, iter, ifs, 0⟩] scope pos) env) Q E s := by
  have hn : ∀ x ∈ scope.names, x.2 = .local → scope.names.lookup x.1 = some .local := fun x hx e => by
    have := List.all_eq_true.mp hnames x hx
    rw [e] at this
    simpa using this
  rw [eval_ListComp]
  refine wpAny_comprehension_free (use := none) rfl hs hclos hkind hn (wpAny_mono h (fun xv s₁ h₁ => wpAny_mono h₁ (fun it s₂ h₂ => ?_) fun _ _ e => e) fun _ _ e => e)
  obtain ⟨bs, V, hcs, h₂⟩ := h₂
  refine comp_core (RR := fun acc C => compPost (model prog w) A E none Q acc C) V hcl hcs fun D C s₃ X => ?_
  obtain ⟨a, I, n₀, b, c⟩ := h₂ D C s₃ X
  refine ⟨a, I, n₀, b, fun n s hI E' => wpAny_mono (c n s hI E') (fun r s₁ hr => ?_) fun _ _ q => q⟩
  cases r with
  | none =>
    obtain ⟨⟨m, hm⟩, hq⟩ := hr
    exact ⟨m, hm, fun h' hs' => hq _ (Kp.same (t := s₁.toks) hs' rfl)⟩
  | some v => exact hr

/-- a list comprehension stored to a plain local, the stores exchanged -/
theorem comp_assign {elt target iter : PySem.Expr} {ifs : List PySem.Expr} {y : Str} {py : Pos} {scope : Scope} {pos spos : Pos} {cl : List (Str × Addr)} {env : Env} {cs : List (Str × Value)} {Q : Flow → Shared → Prop}
    (hsw : swapsWith (.ListComp elt [⟨target, iter, ifs, 0⟩] scope pos) (some (.Name y py)) spos.line env = pure true) (hclos : closureFor scope env = pure cl) (hcl : ClOk env cl)
    (h : wpAny (model prog w) A (eval iter env) (fun xv s₁ => wpAny (model prog w) A (pyIter xv) (fun it s₂ => ∃ bs, Vs env s₂.heap bs ∧ FreeOk scope cl env bs cs ∧ ∀ D C s₃, CompAt env scope cl cs D C s₂ s₃ →
      (∀ (E' : Value → Shared → Prop) (Q' : Value → Shared → Prop), Q' it s₃ → wpAny (model prog w) A (pyIter it) Q' E' s₃) ∧ ∃ I n₀, I n₀ s₃ ∧ ∀ n s, I n s → CompTurn prog w A (compE scope cl C env) target elt ifs it D
        (fun s₁ => wpAny (model prog w) A (storeName env y (.ref D)) (fun _ s₁' => (∃ m, s₁'.heap.Ns C m) ∧ ∀ s', Kp (· = C) s₁' s' → Q .next s') E s₁) I n s) E s₁) E s)
    (hkind : scope.kind = .function := by rfl) (hnames : (scope.names.all fun x => x.2 != .local || scope.names.lookup x.1 == some .local) = true := by rfl) (hs : ∀ x, foldedSetIterable iter env x = pure x := by intro _; rfl) :
    wpAny (model prog w) A (exec (.Assign [.Name y py] (.ListComp elt [⟨target, iter, ifs, 0⟩] scope pos) spos) env) Q E s := by
  have hn : ∀ x ∈ scope.names, x.2 = .local → scope.names.lookup x.1 = some .local := fun x hx e => by
    have := List.all_eq_true.mp hnames x hx
    rw [e] at this
    simpa using this
  rw [exec_Assign_Name_used _ _ _ _ hsw]
  refine wpAny_bind (wpAny_standAt (wpAny_bind ?_))
  show wpAny _ A (do let _ ← comprehension (.ListComp elt [⟨target, iter, ifs, 0⟩] scope pos) scope env _ (newList []) false (eval iter env) (some (assign (.Name y py) env))) _ _ s
  refine wpAny_bind (wpAny_mono (wpAny_comprehension_free (use := some (assign (.Name y py) env)) (Q := fun _ s' => Q .next s') rfl hs hclos hkind hn
    (wpAny_mono h (fun xv s₁ h₁ => wpAny_mono h₁ (fun it s₂ h₂ => ?_) fun _ _ e => e) fun _ _ e => e)) (fun _ s' hq => wpAny_pure (wpAny_pure hq)) fun _ _ e => e)
  obtain ⟨bs, V, hcs, h₂⟩ := h₂
  refine comp_core (RR := fun acc C => compPost (model prog w) A E (some (assign (.Name y py) env)) (fun _ s' => Q .next s') acc C) V hcl hcs fun D C s₃ X => ?_
  obtain ⟨a, I, n₀, b, c⟩ := h₂ D C s₃ X
  refine ⟨a, I, n₀, b, fun n s hI E' => wpAny_mono (c n s hI E') (fun r s₁ hr => ?_) fun _ _ q => q⟩
  cases r with
  | none =>
    show wpAny _ A (assign (.Name y py) env (.ref D)) _ _ _
    refine wpAny_assign_Name (wpAny_mono hr (fun _ s₂ hr => ?_) fun _ _ q => q)
    obtain ⟨⟨m, hm⟩, hq⟩ := hr
    exact ⟨m, hm, fun h' hs' => hq _ (Kp.same (t := s₂.toks) hs' rfl)⟩
  | some v => exact hr

theorem PL.seq {l : Addr} {items ys : List Value} {o : Obj} {n : Nat} {f : Array Value → Array Value} (e : s.heap.get? l = some o) (hc : o.cls = .type "list") (hi : o.dict = none) (hd : o.data = .seq items.toArray n) (hf : f items.toArray = ys.toArray) : PL (s.heap.update l (Obj.mapSeq f)) l ys := by
  obtain ⟨n', hd'⟩ := Obj.data_mapSeq hd f
  have hdi' : (o.mapSeq f).dict = none := by
    obtain ⟨c, d, dt, sl⟩ := o
    cases dt <;> exact hi
  exact ⟨_, n', Heap.get?_update_self _ e (Obj.isFreed_of_seq hd'), (Obj.cls_mapSeq ..).trans hc, hdi', by rw [hd', hf]⟩
theorem append_put {l : Addr} {items : List Value} {x : Value} {Q : Value → Shared → Prop} (hl : PL s.heap l items) (h : ∀ s', PL s'.heap l (items ++ [x]) → Kp (· = l) s s' → Q .none s') (hsz : items.length ≤ sizeLine) :
    wpAny (model prog w) A (call (.builtin "list.append") [.ref l, x]) Q E s := by
  obtain ⟨o, n, e, hc, hi, hd⟩ := id hl
  refine wpAny_call_entry slot_list_append hl.typeIs entry_list_append ?_ (args_list_append _ _)
  show wpAny _ _ (updateSeq l (·.push x) >>= fun _ => ret .none) _ _ s
  refine wpAny_bind ?_
  refine wpAny_updateSeq e hd (wpAny_pure ⟨.none, rfl, h _ (PL.seq e hc hi hd (by simp)) (Kp.same (t := s.toks) (Heap.SameBut.update ..) rfl)⟩) (by simpa using hsz) (by simpa using hsz)
end
end Mine
end

section
open PySem PySem.W PySem.Calls PyProof.Rows
namespace Mine

/-- the frames at fs may have got their slots -/
structure KpF (X : Addr → Prop) (fs : List Addr) (s s' : Shared) : Prop where
  k : Kp (fun a => X a ∨ a ∈ fs) s s'
  d : ∀ a ∈ fs, ∀ o, s.heap.get? a = some o → ∃ sl, s'.heap.get? a = some { o with slots := sl }
theorem KpF.of {X : Addr → Prop} {s s' : Shared} {fs : List Addr} (k : Kp X s s') (h : ∀ a ∈ fs, ¬ X a) : KpF X fs s s' :=
  ⟨k.mono fun _ q => .inl q, fun a ha o e => ⟨o.slots, k.keep a o (h a ha) e⟩⟩
theorem KpF.trans {X : Addr → Prop} {s s' s'' : Shared} {fs : List Addr} (a : KpF X fs s s') (b : KpF X fs s' s'') : KpF X fs s s'' :=
  ⟨a.k.trans b.k, fun c hc o e => by
    obtain ⟨sl, e1⟩ := a.d c hc o e
    obtain ⟨sl', e2⟩ := b.d c hc _ e1
    exact ⟨sl', e2⟩⟩
theorem KpF.mono {X Y : Addr → Prop} {s s' : Shared} {fs : List Addr} (a : KpF X fs s s') (h : ∀ c, X c → Y c) : KpF Y fs s s' := ⟨a.k.mono fun _ q => q.imp (h _) id, a.d⟩
theorem KpF.fresh {X Y : Addr → Prop} {s s' : Shared} {fs : List Addr} (a : KpF X fs s s') (h : ∀ c, X c → Y c ∨ s.heap.get? c = none) : KpF Y fs s s' :=
  ⟨a.k.fresh fun c q => q.elim (fun q => (h c q).imp .inl id) fun q => .inl (.inr q), a.d⟩
/-- whatever hangs on class and data alone -/
theorem KpF.get {X : Addr → Prop} {s s' : Shared} {fs : List Addr} (k : KpF X fs s s') {a : Addr} {o : Obj} (h : ¬ X a) (e : s.heap.get? a = some o) : ∃ sl, s'.heap.get? a = some { o with slots := sl } := by
  by_cases hf : a ∈ fs
  · exact k.d a hf o e
  · exact ⟨o.slots, k.k.keep a o (fun q => q.elim h hf) e⟩
theorem IsList.kf {X : Addr → Prop} {s s' : Shared} {fs : List Addr} {a : Addr} {its : Array Value} (k : KpF X fs s s') (h : ¬ X a) (x : s.heap.IsList a its) : s'.heap.IsList a its :=
  let ⟨_, e, c, n, d⟩ := x; let ⟨_, e'⟩ := k.get h e; ⟨_, e', c, n, d⟩
theorem PL.kf {X : Addr → Prop} {s s' : Shared} {fs : List Addr} {a : Addr} {xs : List Value} (k : KpF X fs s s') (h : ¬ X a) (x : PL s.heap a xs) : PL s'.heap a xs :=
  let ⟨_, n, e, d⟩ := x; let ⟨_, e'⟩ := k.get h e; ⟨_, n, e', d⟩
theorem IsCell.kf {X : Addr → Prop} {s s' : Shared} {fs : List Addr} {a : Addr} {v : Option Value} (k : KpF X fs s s') (h : ¬ X a) (x : s.heap.IsCell a v) : s'.heap.IsCell a v :=
  let ⟨_, e, d⟩ := x; let ⟨_, e'⟩ := k.get h e; ⟨_, e', d⟩
theorem Ns.kf {X : Addr → Prop} {s s' : Shared} {fs : List Addr} {a : Addr} {m : Str → Option Value} (k : KpF X fs s s') (h : ¬ X a) (x : s.heap.Ns a m) : s'.heap.Ns a m :=
  let ⟨_, es, ep, e, d⟩ := x; let ⟨_, e'⟩ := k.get h e; ⟨_, es, ep, e', d⟩
theorem LIt.kf {X : Addr → Prop} {s s' : Shared} {fs : List Addr} {it l : Addr} {rest : List Value} (k : KpF X fs s s') (h1 : ¬ X it) (h2 : ¬ X l) (x : LIt s.heap it l rest) : LIt s'.heap it l rest := by
  rcases x with ⟨items, i, ⟨o, e, r⟩, y, z⟩ | ⟨z, o, i, t, e, r⟩
  · obtain ⟨sl, e'⟩ := k.get h1 e
    exact .inl ⟨items, i, ⟨_, e', r⟩, IsList.kf k h2 y, z⟩
  · obtain ⟨sl, e'⟩ := k.get h1 e
    exact .inr ⟨z, _, i, t, e', r⟩
theorem TupOk.kf {X : Addr → Prop} {s s' : Shared} {fs : List Addr} {v : Value} {t : List Int} (k : KpF X fs s s') (x : TupOk s.heap v t) (hX : ∀ a, X a → ∀ o, s.heap.get? a = some o → o.cls ≠ .type "tuple") : TupOk s'.heap v t := by
  obtain ⟨a, o, n, vs, rfl, e, hc, r⟩ := x
  obtain ⟨sl, e'⟩ := k.get (fun q => hX a q o e hc) e
  exact ⟨a, _, n, vs, rfl, e', hc, r⟩
theorem Vs.kf {X : Addr → Prop} {env : Env} {s s' : Shared} {fs : List Addr} {bs : List (Str × Value)} (V : Vs env s.heap bs) (k : KpF X fs s s') (hX : ∀ a, X a → ¬ Own env a) : Vs env s'.heap bs := by
  have nl : ¬ X env.locals := fun q => hX _ q (.inl rfl)
  have nc : ∀ x c, env.cells.lookup x = some c → ¬ X c := fun x c e q => hX _ q (.inr ⟨x, e⟩)
  refine ⟨?_, fun x v e hk => ?_, fun x c e => ?_, V.inj⟩
  · obtain ⟨ml, a, b⟩ := V.ns
    exact ⟨ml, Ns.kf k nl a, b⟩
  · obtain ⟨c, hc, hv⟩ := V.cl x v e hk
    exact ⟨c, hc, IsCell.kf k (nc x c hc) hv⟩
  · obtain ⟨v, hv⟩ := V.cells x c e
    exact ⟨v, IsCell.kf k (nc x c e) hv⟩
theorem On.kf {H : Heap} {X : Addr → Prop} {s s' : Shared} {fs : List Addr} (h : On H s) (k : KpF X fs s s') (hX : ∀ a, X a → H.get? a = Option.none) (hF : ∀ a ∈ fs, H.get? a = Option.none) : On H s' :=
  h.kp k.k fun a q => q.elim (hX a) (hF a)
theorem FunFrames.kf {H : Heap} {X : Addr → Prop} {s s' : Shared} {fs : List Addr} {l : List Env} (h : s.heap.FunFrames H l) (k : KpF X fs s s') (hX : ∀ a, X a → ∀ o, s.heap.get? a = some o → ∃ vs, o.data = .fields vs ∨ ¬ a ∈ l.filterMap (·.frame)) : s'.heap.FunFrames H l := by
  induction l with
  | nil => trivial
  | cons env rest ih =>
    obtain ⟨hk, ⟨L, o, hf, hn, ho, hd⟩, hr⟩ := h
    have hmem : L ∈ (env :: rest).filterMap (·.frame) := by rw [List.filterMap_cons, hf]; exact .head _
    have hXL : ¬ X L := fun q => by
      obtain ⟨vs, q | q⟩ := hX L q o ho
      · exact hd vs q
      · exact q hmem
    obtain ⟨sl, e'⟩ := k.get hXL ho
    refine ⟨hk, ⟨L, _, hf, hn, e', hd⟩, ih hr fun a ha o' e => ?_⟩
    obtain ⟨vs, q⟩ := hX a ha o' e
    refine ⟨vs, q.imp id fun q r => q ?_⟩
    rw [List.filterMap_cons, hf]
    exact .tail _ r

section
variable {prog : Program} {w : World} {A : Around} {E : Value → Shared → Prop} {s : Shared}

theorem li_no_len : typeLookup (.type "list_iterator") "__len__" = pure none := by rw [typeLookup_type, builtinLookup_eq_fast]; kernel_rfl

theorem len_li {it l : Addr} {rest : List Value} {Q : Value → Shared → Prop} (hh : A.handled = none) (hI : LIt s.heap it l rest)
    (h : ∀ s' e, Heap.NewExc s.heap s'.heap e "TypeError" → s'.gens = s.gens → s'.os = s.os → E (.ref e) s') : wpAny (model prog w) A (call (.builtin "len") [.ref it]) Q E s := by
  refine call_function_entry kind_len plain_len entry_len (args_len1 _) ?_
  unfold Builtin.«len»
  refine wpAny_bind (m := oneArg "len" _) (wpAny_pure ?_)
  refine wpAny_bind (m := callSpecial? (.ref it) (Str.ofString "__len__")) (wpAny_callSpecial?_none hI.typeIs li_no_len ?_)
  refine wpAny_bind (wpAny_rule ?_)
  refine wpAny_bind (wpAny_typeNameOf' hI.typeIs (by decide) ?_)
  refine wpAny_raiseTypeError hh (fun h' tk e x => h _ e x rfl rfl) ?_
  decide +kernel

/-- an exception that this frame notes, then lets fly no more -/
theorem note_new {H : Heap} {env : Env} {outer : List Env} {L e : Addr} {s₀ : Shared} {oe : Obj} {vs : Array Value} {Q : Unit → Shared → Prop} (hfr : A.frames = some (env :: outer)) (hf : env.frame = some L) (hl : s.heap.FunFrames H (env :: outer))
    (he : s.heap.get? e = some oe) (hd : oe.data = .fields vs) (h1 : vs[1]? = some .none) (h0 : s₀.heap.get? e = none) (k0 : Kp Nil s₀ s)
    (h : ∀ s' oe' vs' tb otb tvs, s'.heap.get? e = some oe' → oe'.cls = oe.cls → oe'.data = .fields vs' → vs'[1]? = some (.ref tb) → s'.heap.get? tb = some otb → otb.data = .fields tvs → 3 < tvs.size → s₀.heap.get? tb = none → tb ≠ e →
      KpF Nil ((env :: outer).filterMap (·.frame)) s₀ s' → Q () s') : wpAny (model prog w) A (noteFrame (.ref e) env) Q E s := by
  have hene : e ∉ (env :: outer).filterMap (·.frame) := fun hm => by
    obtain ⟨_, o, ho, hnf⟩ := hl.mem hm
    rw [he] at ho; injection ho with ho; subst ho; exact hnf vs hd
  unfold noteFrame
  simp only [hf]
  refine wpAny_bind (wpAny_field he hd h1 ?_)
  rw [if_neg (by decide)]
  refine wpAny_bind (wpAny_frameOf_fun hfr hl hf fun h₁ hs₁ => ?_)
  refine wpAny_bind (wpAny_entryPlaceOf fun pl hpl => ?_)
  unfold EntryCells.newEntry newFields
  refine wpAny_bind (wpAny_newObj_type ?_ (hpl.sizeOk5 _ _ _ _ _))
  have he₁ : h₁.get? e = some oe := (hs₁.2.1 e hene).trans he
  have he₂ := Heap.get?_push_of_some (h := h₁) { cls := .type "traceback", dict := none, data := .fields ([Value.none, .ref L, .none, rawInt L, .none] ++ (if pl.isEmpty then List.replicate 6 Value.none else pl)).toArray } he₁
  have hsz : 1 < vs.size := (Array.getElem?_eq_some_iff.mp h1).1
  refine wpAny_setField he₂ hd hsz ?_
  have hTe : h₁.objs.size ≠ e := Nat.ne_of_gt (Heap.lt_size he₁)
  have hd₃ := Obj.data_mapFields hd (·.setIfInBounds 1 (Value.ref h₁.objs.size))
  have he₃ := Heap.get?_update_self (Obj.mapFields (·.setIfInBounds 1 (Value.ref h₁.objs.size))) he₂ (Obj.isFreed_of_fields hd₃)
  have hT₃ := (Heap.get?_update_other (h₁.push { cls := .type "traceback", dict := none, data := .fields ([Value.none, .ref L, .none, rawInt L, .none] ++ (if pl.isEmpty then List.replicate 6 Value.none else pl)).toArray })
    (Obj.mapFields (·.setIfInBounds 1 (Value.ref h₁.objs.size))) (Ne.symm hTe)).trans (Heap.get?_push_size h₁ rfl)
  have up : ∀ b o, b ≠ e → h₁.get? b = some o → ((h₁.push { cls := .type "traceback", dict := none, data := .fields ([Value.none, .ref L, .none, rawInt L, .none] ++ (if pl.isEmpty then List.replicate 6 Value.none else pl)).toArray }).update e (Obj.mapFields (·.setIfInBounds 1 (Value.ref h₁.objs.size)))).get? b = some o := fun b o hbe hb => by
    rw [Heap.get?_update_other _ _ (Ne.symm hbe)]
    exact Heap.get?_push_of_some _ hb
  have ne0 : ∀ b o, s₀.heap.get? b = some o → b ≠ e := fun b o hb q => by rw [q, h0] at hb; cases hb
  refine h _ _ _ _ _ _ he₃ (Obj.cls_mapFields _ _) hd₃ (by simp [hsz]) hT₃ rfl ?_ ?_ hTe ⟨⟨fun b o hb eo => ?_, k0.gens, k0.os⟩, fun b hb o eo => ?_⟩
  · simp only [List.size_toArray, List.length_append, List.length_cons, List.length_nil]; omega
  · refine k0.none (fun q => q) ?_
    have : s.heap.objs.size = h₁.objs.size := hs₁.1.symm
    rw [← this]; exact get_fresh (Nat.le_refl _)
  · exact up b o (ne0 b o eo) ((hs₁.2.1 b fun q => hb (.inr q)).trans (k0.keep b o (fun q => q) eo))
  · obtain ⟨sl, q⟩ := hs₁.2.2 b o (k0.keep b o (fun q => q) eo)
    exact ⟨sl, up b _ (ne0 b o eo) q⟩

theorem flight_off {fs : List Addr} {e tb : Addr} {s₀ : Shared} {oe otb : Obj} {vs tvs : Array Value} {Q : Unit → Shared → Prop} (he : s.heap.get? e = some oe) (hd : oe.data = .fields vs) (h1 : vs[1]? = some (.ref tb))
    (htb : s.heap.get? tb = some otb) (hdt : otb.data = .fields tvs) (hsz : 3 < tvs.size) (hne : tb ≠ e) (h0 : s₀.heap.get? tb = none) (k : KpF Nil fs s₀ s)
    (h : ∀ s' otb' tvs', s'.heap.get? e = some oe → s'.heap.get? tb = some otb' → otb'.data = .fields tvs' → 3 < tvs'.size → KpF Nil fs s₀ s' → (∀ a o, a ≠ tb → s.heap.get? a = some o → s'.heap.get? a = some o) → Q () s') :
    wpAny (model prog w) A (setFlight (.ref e) none) Q E s := by
  refine wpAny_setFlight_none he hd h1 htb hdt hsz ?_
  have hd' := Obj.data_mapFields hdt (·.setIfInBounds 3 Value.none)
  have up : ∀ a o, a ≠ tb → s.heap.get? a = some o → (s.heap.update tb (Obj.mapFields (·.setIfInBounds 3 .none))).get? a = some o := fun a o ha e => (Heap.get?_update_other _ _ (Ne.symm ha)).trans e
  refine h _ _ _ (up e _ (Ne.symm hne) he) (Heap.get?_update_self _ htb (Obj.isFreed_of_fields hd')) hd' (by simpa using hsz) ⟨⟨fun b o hb eo => ?_, k.k.gens, k.k.os⟩, fun b hb o eo => ?_⟩ up
  · exact up b o (fun q => by rw [q, h0] at eo; cases eo) (k.k.keep b o hb eo)
  · obtain ⟨sl, q⟩ := k.d b hb o eo
    exact ⟨sl, up b _ (fun r => by rw [r, h0] at eo; cases eo) q⟩

theorem exc_TE : isSubtype (.type "TypeError") (.type "BaseException") = pure true := by rw [isSubtype_type]; kernel_rfl
theorem exc_AE : isSubtype (.type "AttributeError") (.type "BaseException") = pure true := by rw [isSubtype_type]; kernel_rfl
theorem nt_TE : isSubtype (.type ((Manifest.find? "TypeError").elim "type" fun x => x.metatype)) (.type "tuple") = pure false := by rw [isSubtype_type]; kernel_rfl
theorem nt_AE : isSubtype (.type ((Manifest.find? "AttributeError").elim "type" fun x => x.metatype)) (.type "tuple") = pure false := by rw [isSubtype_type]; kernel_rfl
theorem sub_TE_TE : isSubtype (.type "TypeError") (.type "TypeError") = pure true := by rw [isSubtype_type]; kernel_rfl
theorem sub_TE_AE : isSubtype (.type "TypeError") (.type "AttributeError") = pure false := by rw [isSubtype_type]; kernel_rfl
theorem boot_TE : bootBuiltins "TypeError" = some (.type "TypeError") := by decide +kernel
theorem boot_AE : bootBuiltins "AttributeError" = some (.type "AttributeError") := by decide +kernel

/-- a TypeError taken by «except (TypeError, AttributeError): pass» -/
theorem caught {H : Heap} {env : Env} {outer : List Env} {L e : Addr} {s₀ : Shared} {p1 p2 pt pp hp : Pos} {kt : Nat} {Q : Flow → Shared → Prop} (G : Gnd H) (hH : On H s₀) (hfr : A.frames = some (env :: outer)) (hf : env.frame = some L)
    (hl : s₀.heap.FunFrames H (env :: outer)) (x : Heap.NewExc s₀.heap s.heap e "TypeError") (hg : s.gens = s₀.gens) (ho : s.os = s₀.os)
    (hk1 : env.kindOf "TypeError" = some .globalImplicit) (hk2 : env.kindOf "AttributeError" = some .globalImplicit) (hfn : env.scope.kind = .function) (hgl : env.globals = mainGlobals) (hbl : env.builtins = builtinsNs)
    (h : ∀ s', KpF Nil ((env :: outer).filterMap (·.frame)) s₀ s' → Q .next s') :
    wpAny (model prog w) A (noteFrame (.ref e) env) (fun _ s₂ => wpAny (model prog w) A (setFlight (.ref e) none) (fun _ s₃ =>
      wpAny (model prog w) A (handleBy (.ref e) env [.ExceptHandler (some (.Tuple [.Name "TypeError" p1, .Name "AttributeError" p2] kt pt)) none [.Pass pp] hp]) Q E s₃) E s₂) E s := by
  obtain ⟨ob, t, he, hc, hd⟩ := x.there
  have k0 : Kp Nil s₀ s := ⟨fun b o _ q => x.keeps b o q, hg, ho⟩
  refine note_new (s₀ := s₀) hfr hf (hl.of_keeps fun b o q _ => ⟨o, x.keeps b o q, rfl⟩) he hd rfl x.new k0 fun s₂ oe₂ vs₂ tb otb tvs e2 c2 d2 v2 t2 dt2 sz2 f2 ne2 k2 => ?_
  refine flight_off e2 d2 v2 t2 dt2 sz2 ne2 f2 k2 fun s₃ otb₃ tvs₃ e3 t3 dt3 sz3 k3 _ => ?_
  have hF : ∀ a ∈ (env :: outer).filterMap (·.frame), H.get? a = none := fun a ha => (hl.mem ha).1
  have on3 : On H s₃ := hH.kf k3 (fun _ q => q.elim) hF
  refine wpAny_handleBy_tup2 (T1 := "TypeError") (T2 := "AttributeError") (X := "TypeError") (b1 := true) (b2 := false) exc_TE nt_TE exc_AE nt_AE sub_TE_TE sub_TE_AE ?_
  refine Tuple_ (spliced_cons (gl_bi G on3 (by decide) boot_TE (spliced_cons (gl_bi G on3 (by decide) boot_AE (spliced_nil ?_) hk2 hfn hgl hbl)) hk1 hfn hgl hbl))
  refine mk_tuple (fun D s₄ hD hD4 k4 => ⟨D, rfl, ⟨_, hD4, rfl, 0, rfl⟩, ⟨_, k4.keep _ _ (fun q => q) e3, c2.trans hc⟩, ?_⟩) (by show 2 ≤ sizeLine; decide +kernel)
  rw [if_pos (by decide)]
  have k04 : KpF Nil ((env :: outer).filterMap (·.frame)) s₀ s₄ := k3.trans (KpF.of k4 fun _ _ q => q)
  refine flight_off (k4.keep _ _ (fun q => q) e3) d2 v2 (k4.keep _ _ (fun q => q) t3) dt3 sz3 ne2 f2 k04 fun s₅ _ _ _ _ _ _ k5 _ => ?_
  exact wpAny_execs_cons (wpAny_Pass (wpAny_execs_nil (h s₅ k5)))
end
end Mine
end

section
open PySem PySem.W PySem.Calls PyProof.Rows
namespace Mine

/-- f is «lambda x: x» -/
def IdFn (h : Heap) (f : Value) : Prop := ∃ (a : Addr) (o : Obj) (fd : FuncData) (p p' : Pos) (c : Addr), f = .ref a ∧ h.get? a = some o ∧ o.data = .func fd ∧ fd.body = .expr (.Name "x" p) ∧
  fd.params = { posonlyargs := [], args := [{ arg := "x", annotation := none, pos := p' }], vararg := none, kwonlyargs := [], kw_defaults := [], kwarg := none, defaults := [] } ∧
  fd.scope.names = [(("x" : Str), NameKind.local)] ∧ fd.scope.kind = .function ∧ fd.scope.isGenerator = false ∧ fd.scope.isCoroutine = false ∧ fd.closure = [] ∧ fd.defaults = .none ∧ fd.code = .ref c ∧ h.CodeRec (.ref c) fd.qualname
/-- o is no function, and no code -/
def NotFn (o : Obj) : Prop := (∀ fd, o.data ≠ .func fd) ∧ ∀ vs, o.data = .fields vs → ∀ q t, vs[1]? ≠ some (.str q t)
theorem NotFn.seq {o : Obj} {xs : Array Value} {n : Nat} (h : o.data = .seq xs n) : NotFn o := ⟨(fun fd q => by rw [h] at q; cases q), fun vs q => by rw [h] at q; cases q⟩
theorem NotFn.li {h : Heap} {it l : Addr} {rest : List Value} {o : Obj} (x : LIt h it l rest) (e : h.get? it = some o) : NotFn o := by
  rcases x with ⟨_, i, ⟨o', e', _, d⟩, _⟩ | ⟨_, o', i, t, e', _, d⟩
  · rw [e] at e'; cases e'
    exact ⟨(fun fd q => by rw [d] at q; cases q), fun vs q a b r => by rw [d] at q; cases q; cases r⟩
  · rw [e] at e'; cases e'
    exact ⟨(fun fd q => by rw [d] at q; cases q), fun vs q a b r => by rw [d] at q; cases q; cases r⟩
theorem IdFn.kf {X : Addr → Prop} {s s' : Shared} {fs : List Addr} {f : Value} (k : KpF X fs s s') (x : IdFn s.heap f) (hX : ∀ b, X b → ∀ o, s.heap.get? b = some o → NotFn o) : IdFn s'.heap f := by
  obtain ⟨a, o, fd, p, p', c, rfl, e, d, r1, r2, r3, r4, r5, r6, r7, r8, r9, c', oc, vs, t, e0, e1, d1, v1⟩ := x
  obtain ⟨sl, e'⟩ := k.get (fun q => (hX a q o e).1 fd d) e
  obtain ⟨sl', e1'⟩ := k.get (fun q => (hX c' q oc e1).2 vs d1 _ _ v1) e1
  exact ⟨a, _, fd, p, p', c, rfl, e', d, r1, r2, r3, r4, r5, r6, r7, r8, r9, c', _, vs, t, e0, e1', d1, v1⟩
theorem IdFn.kp {X : Addr → Prop} {s s' : Shared} {f : Value} (k : Kp X s s') (x : IdFn s.heap f) (hX : ∀ b, X b → ∀ o, s.heap.get? b = some o → NotFn o) : IdFn s'.heap f :=
  IdFn.kf (fs := []) (KpF.of k fun _ h => nomatch h) x hX
/-- what may be handed as a key: none, or «lambda x: x» -/
def KeyFn (h : Heap) (f : Value) : Prop := f = .none ∨ IdFn h f
theorem KeyFn.kf {X : Addr → Prop} {s s' : Shared} {fs : List Addr} {f : Value} (k : KpF X fs s s') (x : KeyFn s.heap f) (hX : ∀ b, X b → ∀ o, s.heap.get? b = some o → NotFn o) : KeyFn s'.heap f := x.imp id fun x => x.kf k hX
theorem KeyFn.kp {X : Addr → Prop} {s s' : Shared} {f : Value} (k : Kp X s s') (x : KeyFn s.heap f) (hX : ∀ b, X b → ∀ o, s.heap.get? b = some o → NotFn o) : KeyFn s'.heap f := x.imp id fun x => x.kp k hX

section
variable {prog : Program} {w : World} {A : Around} {E : Value → Shared → Prop} {s : Shared}

theorem lam_call {f v : Value} {Q : Value → Shared → Prop} (x : IdFn s.heap f) (hl : s.heap.NoLimit) (hroom : A.depth < recursionLimit) (h : ∀ s', Kp Nil s s' → Q v s') : wpAny (model prog w) A (call f [v]) Q E s := by
  obtain ⟨a, o, fd, p, p', c, rfl, e, d, r1, r2, r3, r4, r5, r6, r7, r8, r9, r10⟩ := x
  obtain ⟨name, qual, params, body, scope, globals, closure, dfl, kwd, doc, pm, ann, code, ct, bi⟩ := fd
  dsimp only at r1 r2 r3 r4 r5 r6 r7 r8 r9 r10
  subst r1 r2 r7 r8 r9
  obtain ⟨kind, names, gen, co, more⟩ := scope
  dsimp only at r3 r4 r5 r6
  subst r3 r4 r5 r6
  refine wpAny_call (kla_callFunE hroom e d rfl rfl rfl r10 ?_)
  refine wpAny_of_eq (a := [(("x" : Str), v)]) rfl ?_
  refine wpAny_newFunctionEnv (show ∀ x ∈ [(("x" : Str), NameKind.local)], x.2 ≠ .cell from by decide) (locs (by rfl)) fun h' hns hsb => ?_
  have k : Kp Nil s { s with heap := h', toks := s.toks + [(("x" : Str), v)].length } := by
    refine ⟨fun b o' _ q => ?_, rfl, rfl⟩
    exact hsb.extBut b o' (Nat.ne_of_lt (Heap.lt_size q)) (Heap.get?_push_of_some _ q)
  refine ⟨let ⟨mc, p, q⟩ := hl; ⟨mc, Ns.kp k (fun q => q) p, q⟩, kla_codeExpr (wpAny_Name (wpAny_loadName_local rfl rfl hns rfl ?_))⟩
  exact h _ k
end
end Mine
end

section
open PySem PySem.W PySem.Calls PyProof.Rows
namespace Mine

section
variable {prog : Program} {w : World} {A : Around} {E : Value → Shared → Prop} {s : Shared}

theorem args_max2 (a d v : Value) : argsOk "max" ⟨[a], [(Str.ofString "default", d), (Str.ofString "key", v)]⟩ := by unfold argsOk; kernel_rfl

theorem seq_put {T : String} {S : Addr} {o : Obj} {xs ys : Array Value} {n : Nat} {Q : Unit → Shared → Prop} (e : s.heap.get? S = some o) (hc : o.cls = .type T) (hd : o.data = .seq xs n) (hz : xs.size ≤ sizeLine) (hz' : ys.size ≤ sizeLine + 1)
    (h : ∀ s' o' n', s'.heap.get? S = some o' → o'.cls = .type T → o'.data = .seq ys n' → Kp (· = S) s s' → Q () s') : wpAny (model prog w) A (updateSeq S fun _ => ys) Q E s := by
  refine wpAny_updateSeq e hd ?_ hz hz'
  obtain ⟨n', hd'⟩ := Obj.data_mapSeq hd (fun _ => ys)
  exact h _ _ n' (Heap.get?_update_self _ e (Obj.isFreed_of_seq hd')) ((Obj.cls_mapSeq ..).trans hc) hd' (Kp.same (t := s.toks) (Heap.SameBut.update ..) rfl)

/-- the key's value at an item -/
theorem key_val {kv v : Value} {c : Value → Sem Value} {Q : Value → Shared → Prop} (x : KeyFn s.heap kv) (hl : s.heap.NoLimit) (hroom : A.depth < recursionLimit)
    (hc : ∀ (Q' : Value → Shared → Prop), (∀ E' : Value → Shared → Prop, wpAny (model prog w) A (call kv [v]) Q' E' s) → wpAny (model prog w) A (c kv) Q' E s) (h : ∀ s', Kp Nil s s' → Q v s') :
    wpAny (model prog w) A (match kv with | .none => pure v | _ => c kv) Q E s := by
  rcases x with rfl | x
  · exact wpAny_pure (h s Kp.rfl')
  · have y := x
    obtain ⟨a, _, _, _, _, _, rfl, _⟩ := y
    exact hc _ fun E' => lam_call x hl hroom h

/-- what the loop of max holds on to -/
structure MaxAt (s₀ s : Shared) (it l S : Addr) (best : List Value) (rest : List Value) (kv : Value) : Prop where
  li : LIt s.heap it l rest
  so : ∃ o n, s.heap.get? S = some o ∧ o.cls = .type "list" ∧ o.data = .seq best.toArray n
  k : Kp (fun a => a = it ∨ a = S) s₀ s
  key : KeyFn s.heap kv
  lim : s.heap.NoLimit
  lS : l ≠ S
  lit : l ≠ it
  itS : it ≠ S

theorem MaxAt.kp {s₀ s s' : Shared} {it l S : Addr} {best rest : List Value} {kv : Value} (M : MaxAt s₀ s it l S best rest kv) (k : Kp Nil s s') : MaxAt s₀ s' it l S best rest kv where
  li := LIt.kp k (fun q => q) (fun q => q) M.li
  so := let ⟨o, n, e, r⟩ := M.so; ⟨o, n, k.keep _ _ (fun q => q) e, r⟩
  k := M.k.trans (k.mono fun _ q => q.elim)
  key := M.key.kp k fun _ q => q.elim
  lim := let ⟨mc, p, q⟩ := M.lim; ⟨mc, Ns.kp k (fun q => q) p, q⟩
  lS := M.lS
  lit := M.lit
  itS := M.itS
theorem MaxAt.next {s₀ s s' : Shared} {it l S : Addr} {best rest rest' : List Value} {kv : Value} (M : MaxAt s₀ s it l S best rest kv) (k : Kp (· = it) s s') (hI : LIt s'.heap it l rest') : MaxAt s₀ s' it l S best rest' kv where
  li := hI
  so := let ⟨o, n, e, r⟩ := M.so; ⟨o, n, k.keep _ _ M.itS.symm e, r⟩
  k := M.k.trans (k.mono fun _ q => .inl q)
  key := M.key.kp k fun b q o e => NotFn.li M.li (q ▸ e)
  lim := let ⟨mc, p, q⟩ := M.lim; ⟨mc, Ns.kp k (fun r => by
    obtain ⟨o, es, ep, e, d, _⟩ := p
    rcases M.li with ⟨_, i, ⟨o', e', _, d'⟩, _⟩ | ⟨_, o', i, t, e', _, d'⟩ <;> (rw [r, e'] at e; cases e; rw [d] at d'; cases d')) p, q⟩
  lS := M.lS
  lit := M.lit
  itS := M.itS
theorem MaxAt.put {s₀ s s' : Shared} {it l S : Addr} {best best' rest : List Value} {kv : Value} {o' : Obj} {n' : Nat} (M : MaxAt s₀ s it l S best rest kv) (k : Kp (· = S) s s') (e' : s'.heap.get? S = some o') (hc' : o'.cls = .type "list") (hd' : o'.data = .seq best'.toArray n') : MaxAt s₀ s' it l S best' rest kv where
  li := LIt.kp k M.itS M.lS M.li
  so := ⟨o', n', e', hc', hd'⟩
  k := M.k.trans (k.mono fun _ q => .inr q)
  key := M.key.kp k fun b q o e => by
    obtain ⟨ob, nb, eb, _, db⟩ := M.so
    rw [q, eb] at e
    cases e
    exact NotFn.seq db
  lim := let ⟨mc, p, q⟩ := M.lim; ⟨mc, Ns.kp k (fun r => by
    obtain ⟨o, es, ep, e, d, _⟩ := p
    obtain ⟨ob, nb, eb, _, db⟩ := M.so
    rw [r, eb] at e; cases e; rw [db] at d; cases d) p, q⟩
  lS := M.lS
  lit := M.lit
  itS := M.itS

theorem max_loop {it l S : Addr} {kv d : Value} {R : Result → Shared → Prop} (hh : A.handled = none) (s₀ : Shared) (hroom : A.depth < recursionLimit) :
    ∀ (rest : List Value) (rs : List Int) (m : Int) (t₁ t₂ : Tok) (s : Shared), IntsAre rest rs → MaxAt s₀ s it l S [.int m t₁, .int m t₂] rest kv →
      (∀ s' M t, Kp (fun a => a = it ∨ a = S) s₀ s' → LIt s'.heap it l [] → M ∈ m :: rs → (∀ x ∈ m :: rs, x ≤ M) → R (.ok (.ret (.int M t))) s') →
      codeAny (model prog w) A (.builtin "max.loop" ⟨[.ref it, kv, .ref S], [(Str.ofString "default", d)]⟩) R s := by
  have hname : (toString "max" ++ toString ".loop" : String) = "max.loop" := by decide
  intro rest
  induction rest with
  | nil =>
    intro rs m t₁ t₂ s hi M hR
    cases hi
    obtain ⟨o, n, e, hc, hd⟩ := M.so
    refine codeAny_builtin PySem.F.entry_max_loop ?_
    rw [Around.under_plainId PySem.F.plain_max_loop _]
    show wpAny _ A.in1 (seqItems? (.ref S) >>= _) _ _ _
    refine wpAny_bind (wpAny_seqItems e hd ?_)
    show wpAny _ A.in1 (tryCatch (pyNext (.ref it)) _ >>= _) _ _ _
    refine wpAny_bind (wpAny_tryCatch (next_end hh M.li fun s₁ li₁ k₁ => ?_))
    have M1 := M.next k₁ li₁
    obtain ⟨o1, n1, e1, hc1, hd1⟩ := M1.so
    show wpAny _ A.in1 (updateSeq S (fun _ => #[]) >>= _) _ _ _
    refine wpAny_bind (seq_put e1 hc1 hd1 (by show 2 ≤ sizeLine; decide +kernel) (by show 0 ≤ _; omega) fun s₂ o₂ n₂ e₂ hc₂ hd₂ k₂ => ?_)
    refine wpAny_bind (wpAny_letGo (wpAny_pure ?_))
    exact hR s₂ m t₁ (M1.k.trans (k₂.mono fun _ q => .inr q)) (LIt.kp k₂ M1.itS M1.lS M1.li) (.head _) fun x hx => by
      rcases List.mem_cons.mp hx with q | q
      · omega
      · cases q
  | cons v rest ih =>
    intro rs m t₁ t₂ s hi M hR
    cases hi with
    | cons x tx hi =>
      rename_i rs
      obtain ⟨o, n, e, hc, hd⟩ := M.so
      refine codeAny_builtin PySem.F.entry_max_loop ?_
      rw [Around.under_plainId PySem.F.plain_max_loop _]
      show wpAny _ A.in1 (seqItems? (.ref S) >>= _) _ _ _
      refine wpAny_bind (wpAny_seqItems e hd ?_)
      show wpAny _ A.in1 (tryCatch (pyNext (.ref it)) _ >>= _) _ _ _
      refine wpAny_bind (wpAny_tryCatch (next_item M.li fun s₁ li₁ k₁ => ?_))
      have M1 := M.next k₁ li₁
      dsimp only
      rcases M1.key with hk | hk
      · subst hk
        refine wpAny_bind (wpAny_pure ?_)
        have M2 := M1
        obtain ⟨o2, n2, e2, hc2, hd2⟩ := M2.so
        refine wpAny_bind (wpAny_tryCatch (wpAny_holding (wpAny_bind (show wpAny _ _ (compareOp .Gt (.int x tx) (.int m t₂)) _ _ _ from gt_int ?_))))
        refine wpAny_bind (wpAny_holding (wpAny_truthy_bool ?_))
        refine wpAny_bind (wpAny_letGo (wpAny_pure ?_))
        by_cases hb : m < x
        · rw [if_pos (by simpa using hb)]
          refine wpAny_bind (seq_put (ys := #[.int x tx, .int x tx]) e2 hc2 hd2 (by show 2 ≤ sizeLine; decide +kernel) (by show 2 ≤ _; decide +kernel) fun s₃ o₃ n₃ e₃ hc₃ hd₃ k₃ => ?_)
          refine wpAny_bind (wpAny_letGo ?_)
          rw [hname]
          refine wpAny_pure ⟨plainId_quiet PySem.F.plain_max_loop _, ih rs x tx tx s₃ hi (M2.put k₃ e₃ hc₃ hd₃) fun s' Mx t k hl h1 h2 => hR s' Mx t k hl ?_ fun y hy => ?_⟩
          · rcases List.mem_cons.mp h1 with q | q
            · exact .tail _ (q ▸ .head _)
            · exact .tail _ (.tail _ q)
          · have hx := h2 x (.head _)
            rcases List.mem_cons.mp hy with q | q
            · omega
            · exact h2 y q
        · rw [if_neg (by simpa using hb)]
          refine wpAny_bind (wpAny_letGo ?_)
          rw [hname]
          refine wpAny_pure ⟨plainId_quiet PySem.F.plain_max_loop _, ih rs m t₁ t₂ _ hi M2 fun s' Mx t k hl h1 h2 => hR s' Mx t k hl ?_ fun y hy => ?_⟩
          · rcases List.mem_cons.mp h1 with q | q
            · exact q ▸ .head _
            · exact .tail _ (.tail _ q)
          · have hx := h2 m (.head _)
            rcases List.mem_cons.mp hy with q | q
            · omega
            · rcases List.mem_cons.mp q with q | q
              · omega
              · exact h2 y (.tail _ q)
      · have hk' := hk
        obtain ⟨a, _, _, _, _, _, rfl, _⟩ := hk'
        refine wpAny_bind (wpAny_tryCatch (wpAny_holding (lam_call hk M1.lim hroom fun s₂ k₂ => ?_)))
        have M2 := M1.kp k₂
        obtain ⟨o2, n2, e2, hc2, hd2⟩ := M2.so
        refine wpAny_bind (wpAny_tryCatch (wpAny_holding (wpAny_bind (show wpAny _ _ (compareOp .Gt (.int x tx) (.int m t₂)) _ _ _ from gt_int ?_))))
        refine wpAny_bind (wpAny_holding (wpAny_truthy_bool ?_))
        refine wpAny_bind (wpAny_letGo (wpAny_pure ?_))
        by_cases hb : m < x
        · rw [if_pos (by simpa using hb)]
          refine wpAny_bind (seq_put (ys := #[.int x tx, .int x tx]) e2 hc2 hd2 (by show 2 ≤ sizeLine; decide +kernel) (by show 2 ≤ _; decide +kernel) fun s₃ o₃ n₃ e₃ hc₃ hd₃ k₃ => ?_)
          refine wpAny_bind (wpAny_letGo ?_)
          rw [hname]
          refine wpAny_pure ⟨plainId_quiet PySem.F.plain_max_loop _, ih rs x tx tx s₃ hi (M2.put k₃ e₃ hc₃ hd₃) fun s' Mx t k hl h1 h2 => hR s' Mx t k hl ?_ fun y hy => ?_⟩
          · rcases List.mem_cons.mp h1 with q | q
            · exact .tail _ (q ▸ .head _)
            · exact .tail _ (.tail _ q)
          · have hx := h2 x (.head _)
            rcases List.mem_cons.mp hy with q | q
            · omega
            · exact h2 y q
        · rw [if_neg (by simpa using hb)]
          refine wpAny_bind (wpAny_letGo ?_)
          rw [hname]
          refine wpAny_pure ⟨plainId_quiet PySem.F.plain_max_loop _, ih rs m t₁ t₂ _ hi M2 fun s' Mx t k hl h1 h2 => hR s' Mx t k hl ?_ fun y hy => ?_⟩
          · rcases List.mem_cons.mp h1 with q | q
            · exact q ▸ .head _
            · exact .tail _ (.tail _ q)
          · have hx := h2 m (.head _)
            rcases List.mem_cons.mp hy with q | q
            · omega
            · rcases List.mem_cons.mp q with q | q
              · omega
              · exact h2 y (.tail _ q)

theorem max_call {it l : Addr} {kv d : Value} {rest : List Value} {x : Int} {tx : Tok} {rs : List Int} {Q : Value → Shared → Prop} (hh : A.handled = none) (hroom : A.depth < recursionLimit) (hlim : s.heap.NoLimit) (hli : LIt s.heap it l (.int x tx :: rest)) (hlo : ∃ o, s.heap.get? l = some o) (hlit : l ≠ it)
    (hi : IntsAre rest rs) (hk : KeyFn s.heap kv) (h : ∀ s' M t, Kp (· = it) s s' → LIt s'.heap it l [] → M ∈ x :: rs → (∀ y ∈ x :: rs, y ≤ M) → Q (.int M t) s') :
    wpAny (model prog w) A (call (.builtin "max") [.ref it] [(Str.ofString "default", d), (Str.ofString "key", kv)]) Q E s := by
  have hname : (toString "max" ++ toString ".loop" : String) = "max.loop" := by decide
  refine kmk_tree PySem.F.kind_max PySem.F.plain_max PySem.F.entry_max (args_max2 _ _ _) ?_
  show wpAny _ A.in1 (Builtin.Builtins.bindParams "max" ["key", "default"] 0 ⟨[], [(Str.ofString "default", d), (Str.ofString "key", kv)]⟩ >>= _) _ _ s
  refine wpAny_bind (wpAny_of_eq (show Builtin.Builtins.bindParams "max" ["key", "default"] 0 ⟨[], [(Str.ofString "default", d), (Str.ofString "key", kv)]⟩ = pure [some kv, some d] from rfl) ?_)
  refine wpAny_bind (wpAny_pure ?_)
  refine wpAny_bind (iter_li hli ?_)
  refine wpAny_bind (mk_list (fun S s₁ hS hS1 k₁ => ?_) (by show 0 ≤ sizeLine; omega))
  rw [hname]
  refine wpAny_pure ⟨plainId_quiet PySem.F.plain_max_loop _, ?_⟩
  obtain ⟨oi, hoi, _⟩ := hli.obj
  obtain ⟨ol, hol⟩ := hlo
  have M1 : MaxAt s s₁ it l S [] (.int x tx :: rest) kv := ⟨LIt.kp k₁ (fun q => q) (fun q => q) hli, ⟨_, 0, hS1, rfl, rfl⟩, k₁.mono fun _ q => q.elim, hk.kp k₁ fun _ q => q.elim, let ⟨mc, p, q⟩ := hlim; ⟨mc, Ns.kp k₁ (fun q => q) p, q⟩,
    (fun q => by rw [q, hS] at hol; cases hol), hlit, fun q => by rw [q, hS] at hoi; cases hoi⟩
  have fin : ∀ s' M t, Kp (fun a => a = it ∨ a = S) s s' → LIt s'.heap it l [] → M ∈ x :: rs → (∀ y ∈ x :: rs, y ≤ M) → Q (.int M t) s' := fun s' M t k hl a b => h s' M t (k.fresh fun c q => q.imp id fun q => by rw [q]; exact hS) hl a b
  obtain ⟨o, n, e, hc, hd⟩ := M1.so
  refine codeAny_builtin PySem.F.entry_max_loop ?_
  rw [Around.under_plainId PySem.F.plain_max_loop _]
  show wpAny _ A.in1 (seqItems? (.ref S) >>= _) _ _ _
  refine wpAny_bind (wpAny_seqItems e hd ?_)
  show wpAny _ A.in1 (tryCatch (pyNext (.ref it)) _ >>= _) _ _ _
  refine wpAny_bind (wpAny_tryCatch (next_item M1.li fun s₂ li₂ k₂ => ?_))
  have M2 := M1.next k₂ li₂
  dsimp only
  rcases M2.key with hk | hk
  · subst hk
    refine wpAny_bind (wpAny_pure ?_)
    obtain ⟨o3, n3, e3, hc3, hd3⟩ := M2.so
    refine wpAny_bind (seq_put (ys := #[.int x tx, .int x tx]) e3 hc3 hd3 (by show 0 ≤ sizeLine; omega) (by show 2 ≤ _; decide +kernel) fun s₄ o₄ n₄ e₄ hc₄ hd₄ k₄ => ?_)
    rw [hname]
    exact wpAny_pure ⟨plainId_quiet PySem.F.plain_max_loop _, max_loop hh s hroom rest rs x tx tx s₄ hi (M2.put k₄ e₄ hc₄ hd₄) fin⟩
  · have hk' := hk
    obtain ⟨a, _, _, _, _, _, rfl, _⟩ := hk'
    refine wpAny_bind (wpAny_tryCatch (wpAny_holding (lam_call hk M2.lim hroom fun s₃ k₃ => ?_)))
    have M3 := M2.kp k₃
    obtain ⟨o3, n3, e3, hc3, hd3⟩ := M3.so
    refine wpAny_bind (seq_put (ys := #[.int x tx, .int x tx]) e3 hc3 hd3 (by show 0 ≤ sizeLine; omega) (by show 2 ≤ _; decide +kernel) fun s₄ o₄ n₄ e₄ hc₄ hd₄ k₄ => ?_)
    rw [hname]
    exact wpAny_pure ⟨plainId_quiet PySem.F.plain_max_loop _, max_loop hh s hroom rest rs x tx tx s₄ hi (M3.put k₄ e₄ hc₄ hd₄) fin⟩
end
end Mine
end

section
open PySem PySem.W PySem.Calls PyProof.Rows
namespace Mine

/-- a total preorder, told by what is less -/
structure Ord (lt : Nat → Nat → Bool) : Prop where
  asymm : ∀ a b, lt a b = true → lt b a = false
  trans : ∀ a b c, lt b a = false → lt c b = false → lt c a = false
theorem Ord.refl {lt : Nat → Nat → Bool} (O : Ord lt) (a : Nat) : lt a a = false := by
  cases h : lt a a with
  | false => rfl
  | true => have := O.asymm a a h; rw [h] at this; cases this

section
variable {lt : Nat → Nat → Bool} {s : Shared} {cmp : Nat → Nat → (Bool → Shared → Prop) → Shared → Prop} {n : Nat}

abbrev Pa (p : Array Nat) (i : Nat) : Nat := p.getD i 0
theorem Pa_get (p : Array Nat) (i : Nat) : Pa p i = (p[i]?).getD 0 := by simp [Pa, Array.getD_eq_getD_getElem?]
def Up (lt : Nat → Nat → Bool) (p : Array Nat) (m : Nat) : Prop := ∀ i j, i ≤ j → j < m → lt (Pa p j) (Pa p i) = false
def Dn (lt : Nat → Nat → Bool) (p : Array Nat) (m : Nat) : Prop := ∀ i j, i ≤ j → j < m → lt (Pa p i) (Pa p j) = false
def Even (lt : Nat → Nat → Bool) (p : Array Nat) (a m : Nat) : Prop := ∀ i, a ≤ i → i < m → lt (Pa p i) (Pa p (m - 1)) = false ∧ lt (Pa p (m - 1)) (Pa p i) = false
/-- p is a shuffle of 0 .. n - 1 -/
def Shuf (n : Nat) (p : Array Nat) : Prop := p.toList.Perm (List.range n)
theorem Shuf.size {p : Array Nat} (h : Shuf n p) : p.size = n := by have := List.Perm.length_eq h; simpa using this
theorem Shuf.below {p : Array Nat} (h : Shuf n p) (h0 : 0 < n) (i : Nat) : Pa p i < n := by
  rw [Pa_get]
  cases e : p[i]? with
  | none => exact h0
  | some x =>
    have hx : x ∈ p.toList := by
      have := Array.mem_of_getElem? e
      simpa using this
    have := h.mem_iff.mp hx
    simpa using this
theorem Shuf.of {p q : Array Nat} (h : Shuf n p) (hq : q.Perm p) : Shuf n q := (Array.perm_iff_toList_perm.mp hq).trans h

theorem Up.snoc {p : Array Nat} {m : Nat} (O : Ord lt) (h1 : 1 ≤ m) (h : Up lt p m) (hl : lt (Pa p m) (Pa p (m - 1)) = false) : Up lt p (m + 1) := fun i j hij hj => by
  by_cases e : j < m
  · exact h i j hij e
  · have : j = m := by omega
    subst this
    by_cases e2 : i = j
    · subst e2; exact O.refl _
    · exact O.trans _ _ _ (h i (j - 1) (by omega) (by omega)) hl
theorem Dn.snoc {p : Array Nat} {m : Nat} (O : Ord lt) (h1 : 1 ≤ m) (h : Dn lt p m) (hl : lt (Pa p (m - 1)) (Pa p m) = false) : Dn lt p (m + 1) := fun i j hij hj => by
  by_cases e : j < m
  · exact h i j hij e
  · have : j = m := by omega
    subst this
    by_cases e2 : i = j
    · subst e2; exact O.refl _
    · exact O.trans _ _ _ hl (h i (j - 1) (by omega) (by omega))

theorem asc_ok (O : Ord lt) (hc : ∀ i j C, i < n → j < n → C (lt i j) s → cmp i j C s) (h0 : 0 < n) {p : Array Nat} (hp : Shuf n p) {G : Nat → Shared → Prop} : ∀ (f m : Nat), 1 ≤ m → m + f ≤ n → Up lt p m →
    (∀ m', m ≤ m' → m' ≤ m + f → Up lt p m' → (m' = m + f ∨ lt (Pa p m') (Pa p (m' - 1)) = true) → G m' s) → (kas_asc p f m).kasWp cmp G s
  | 0, m, _, _, hu, h => h m (Nat.le_refl _) (Nat.le_refl _) hu (.inl rfl)
  | f + 1, m, h1, hm, hu, h => by
    show cmp (Pa p m) (Pa p (m - 1)) _ s
    refine hc _ _ _ (hp.below h0 _) (hp.below h0 _) ?_
    cases e : lt (Pa p m) (Pa p (m - 1)) with
    | true => exact h m (Nat.le_refl _) (by omega) hu (.inr e)
    | false =>
      show (kas_asc p f (m + 1)).kasWp cmp G s
      exact asc_ok O hc h0 hp f (m + 1) (by omega) (by omega) (hu.snoc O h1 e) fun m' a b c d => h m' (by omega) (by omega) c (d.imp (by omega) id)

/-- turning a run of equals round changes no order -/
theorem rev_even (O : Ord lt) {p : Array Nat} {a m : Nat} (hm : m ≤ p.size) (he : Even lt p a m) (i : Nat) : lt (Pa (kas_rev p a m) i) (Pa p i) = false ∧ lt (Pa p i) (Pa (kas_rev p a m) i) = false := by
  have e := getElem?_mirror_all (i := a) hm i
  rw [Pa_get (kas_rev p a m) i]
  unfold kas_rev
  rw [e]
  by_cases q : a ≤ i ∧ i < m
  · rw [if_pos q, ← Pa_get]
    have h1 := he i q.1 q.2
    have h2 := he (a + m - 1 - i) (by omega) (by omega)
    exact ⟨O.trans _ _ _ h1.2 h2.1, O.trans _ _ _ h2.2 h1.1⟩
  · rw [if_neg q, ← Pa_get]
    exact ⟨O.refl _, O.refl _⟩
theorem Dn.rev (O : Ord lt) {p : Array Nat} {a m k : Nat} (hm : m ≤ p.size) (he : Even lt p a m) (h : Dn lt p k) : Dn lt (kas_rev p a m) k := fun i j hij hj => by
  have h1 := rev_even O hm he i
  have h2 := rev_even O hm he j
  exact O.trans _ _ _ h2.2 (O.trans _ _ _ (h i j hij hj) h1.1)
theorem rev_shuf {p : Array Nat} (h : Shuf n p) (a m : Nat) : Shuf n (kas_rev p a m) := h.of (mirror_perm _ _ _ _)

theorem desc_ok (O : Ord lt) (hc : ∀ i j C, i < n → j < n → C (lt i j) s → cmp i j C s) (h0 : 0 < n) {G : Array Nat × Nat × Nat → Shared → Prop} : ∀ (f : Nat) (p : Array Nat) (m q : Nat), Shuf n p → 1 ≤ m → m + f ≤ n → Dn lt p m → q + 1 ≤ m → Even lt p (m - (q + 1)) m →
    (∀ p' m' q', Shuf n p' → m ≤ m' → m' ≤ m + f → Dn lt p' m' → q' + 1 ≤ m' → Even lt p' (m' - (q' + 1)) m' → G (p', m', q') s) → (kas_desc f p m q).kasWp cmp G s
  | 0, p, m, q, hp, _, _, hd, hq, he, h => h p m q hp (Nat.le_refl _) (Nat.le_refl _) hd hq he
  | f + 1, p, m, q, hp, h1, hm, hd, hq, he, h => by
    show cmp (Pa p m) (Pa p (m - 1)) _ s
    refine hc _ _ _ (hp.below h0 _) (hp.below h0 _) ?_
    have hsz := hp.size
    have one : ∀ p' : Array Nat, Even lt p' (m + 1 - (0 + 1)) (m + 1) := fun p' i a b => by
      have : i = m := by omega
      subst this
      exact ⟨O.refl _, O.refl _⟩
    cases e : lt (Pa p m) (Pa p (m - 1)) with
    | true =>
      show (if q > 0 then kas_desc f (kas_rev p (m - (q + 1)) m) (m + 1) 0 else kas_desc f p (m + 1) 0).kasWp cmp G s
      by_cases hq0 : q > 0
      · rw [if_pos hq0]
        have hp' := rev_shuf hp (m - (q + 1)) m
        have r1 := rev_even O (by omega) he m
        have r2 := rev_even O (by omega) he (m - 1)
        refine desc_ok O hc h0 f _ (m + 1) 0 hp' (by omega) (by omega) ((hd.rev O (by omega) he).snoc O h1 ?_) (by omega) (one _) fun p' m' q' a b c d g k => h p' m' q' a (by omega) (by omega) d g k
        exact O.trans _ _ _ r1.2 (O.trans _ _ _ (O.asymm _ _ e) r2.1)
      · rw [if_neg hq0]
        exact desc_ok O hc h0 f _ (m + 1) 0 hp (by omega) (by omega) (hd.snoc O h1 (O.asymm _ _ e)) (by omega) (one _) fun p' m' q' a b c d g k => h p' m' q' a (by omega) (by omega) d g k
    | false =>
      show cmp (Pa p (m - 1)) (Pa p m) _ s
      refine hc _ _ _ (hp.below h0 _) (hp.below h0 _) ?_
      cases e2 : lt (Pa p (m - 1)) (Pa p m) with
      | true => exact h p m q hp (Nat.le_refl _) (by omega) hd hq he
      | false =>
        show (kas_desc f p (m + 1) (q + 1)).kasWp cmp G s
        refine desc_ok O hc h0 f _ (m + 1) (q + 1) hp (by omega) (by omega) (hd.snoc O h1 e2) (by omega) (fun i a b => ?_) fun p' m' q' a b c d g k => h p' m' q' a (by omega) (by omega) d g k
        rw [show m + 1 - 1 = m by omega]
        by_cases hi : i = m
        · subst hi; exact ⟨O.refl _, O.refl _⟩
        · have := he i (by omega) (by omega)
          exact ⟨O.trans _ _ _ e2 this.1, O.trans _ _ _ this.2 e⟩

theorem up_of_dn {p : Array Nat} {m : Nat} (hm : m ≤ p.size) (h : Dn lt p m) : Up lt (kas_rev p 0 m) m := fun i j hij hj => by
  have e : ∀ k, k < m → Pa (kas_rev p 0 m) k = Pa p (m - 1 - k) := fun k hk => by
    have e := getElem?_mirror_all (i := 0) hm k
    rw [Pa_get (kas_rev p 0 m) k]
    unfold kas_rev
    rw [e, if_pos (by omega), Pa_get, show 0 + m - 1 - k = m - 1 - k by omega]
  rw [e j hj, e i (by omega)]
  exact h _ _ (by omega) (by omega)

theorem tail3_ok (O : Ord lt) (hc : ∀ i j C, i < n → j < n → C (lt i j) s → cmp i j C s) (h0 : 0 < n) {G : Nat × Array Nat → Shared → Prop} {p : Array Nat} {m : Nat} (hp : Shuf n p) (h1 : 1 ≤ m) (hm : m ≤ n) (hd : Dn lt p m)
    (h : ∀ m' p', Shuf n p' → 1 ≤ m' → m' ≤ n → Up lt p' m' → G (m', p') s) : (kas_tail3 m n p).kasWp cmp G s := by
  unfold kas_tail3
  rw [KasT.kasWp_bind]
  refine asc_ok O hc h0 (rev_shuf hp 0 m) (n - m) m h1 (by omega) (up_of_dn (by rw [hp.size]; exact hm) hd) fun m' a b c _ => ?_
  exact h m' _ (rev_shuf hp 0 m) (by omega) (by omega) c

theorem descPart_ok (O : Ord lt) (hc : ∀ i j C, i < n → j < n → C (lt i j) s → cmp i j C s) (h0 : 0 < n) {G : Nat × Array Nat → Shared → Prop} {p : Array Nat} {m : Nat} (hp : Shuf n p) (hm : m + 1 ≤ n) (hd : Dn lt p (m + 1))
    (h : ∀ m' p', Shuf n p' → 1 ≤ m' → m' ≤ n → Up lt p' m' → G (m', p') s) : (kas_descPart m n p).kasWp cmp G s := by
  unfold kas_descPart
  rw [KasT.kasWp_bind]
  refine desc_ok O hc h0 (n - (m + 1)) p (m + 1) 0 hp (by omega) (by omega) hd (by omega) (fun i a b => ?_) fun p' m' q' a b c d g k => ?_
  · have : i = m := by omega
    subst this
    exact ⟨O.refl _, O.refl _⟩
  · dsimp only
    split
    · exact tail3_ok O hc h0 (rev_shuf a _ _) (by omega) (by omega) (d.rev O (by rw [a.size]; omega) k) h
    · exact tail3_ok O hc h0 a (by omega) (by omega) d h

theorem count_ok (O : Ord lt) (hc : ∀ i j C, i < n → j < n → C (lt i j) s → cmp i j C s) (h0 : 0 < n) {G : Nat × Array Nat → Shared → Prop} {p : Array Nat} (hp : Shuf n p)
    (h : ∀ m' p', Shuf n p' → 1 ≤ m' → m' ≤ n → Up lt p' m' → G (m', p') s) : (kas_count n p).kasWp cmp G s := by
  unfold kas_count
  rw [KasT.kasWp_bind]
  have hu1 : Up lt p 1 := fun i j a b => by
    have h1 : i = 0 := by omega
    have h2 : j = 0 := by omega
    rw [h1, h2]; exact O.refl _
  refine asc_ok O hc h0 hp (n - 1) 1 (Nat.le_refl _) (by omega) hu1 fun m a b c d => ?_
  by_cases hmn : m = n
  · rw [if_pos (by simpa using hmn)]
    exact h m p hp a (by omega) c
  · rw [if_neg (by simpa using hmn)]
    have hlt : lt (Pa p m) (Pa p (m - 1)) = true := d.resolve_left (by omega)
    by_cases hm1 : m > 1
    · rw [if_pos hm1]
      show cmp (Pa p 0) (Pa p (m - 1)) _ s
      refine hc _ _ _ (hp.below h0 _) (hp.below h0 _) ?_
      cases e : lt (Pa p 0) (Pa p (m - 1)) with
      | true => exact h m p hp a (by omega) c
      | false =>
        show (kas_descPart m n (kas_rev p 0 m)).kasWp cmp G s
        have hsz := hp.size
        have he : Even lt p 0 m := fun i _ hi => ⟨?_, c i (m - 1) (by omega) (by omega)⟩
        · refine descPart_ok O hc h0 (rev_shuf hp 0 m) (by omega) ?_ h
          have r1 := rev_even O (by omega) he m
          have r2 := rev_even O (by omega) he (m - 1)
          have hd : Dn lt p m := fun i j hij hj => O.trans _ _ _ (he j (by omega) hj).2 (he i (by omega) (by omega)).1
          refine (hd.rev O (by omega) he).snoc O a ?_
          exact O.trans _ _ _ r1.2 (O.trans _ _ _ (O.asymm _ _ hlt) r2.1)
        · exact O.trans _ _ _ e (c 0 i (by omega) hi)
    · rw [if_neg hm1]
      have : m = 1 := by omega
      subst this
      refine descPart_ok O hc h0 hp (by omega) (fun i j hij hj => ?_) h
      by_cases hi : i = j
      · subst hi; exact O.refl _
      · have h1 : i = 0 := by omega
        have h2 : j = 1 := by omega
        rw [h1, h2]
        exact O.asymm _ _ hlt

theorem place_ok (O : Ord lt) (hc : ∀ i j C, i < n → j < n → C (lt i j) s → cmp i j C s) (h0 : 0 < n) {p : Array Nat} (hp : Shuf n p) {k : Nat} (hu : Up lt p k) {G : Nat → Shared → Prop} : ∀ (f l r : Nat), l ≤ r → r ≤ k → r - l ≤ f →
    (∀ i, i < l → lt (Pa p k) (Pa p i) = false) → (∀ i, r ≤ i → i < k → lt (Pa p i) (Pa p k) = false) →
    (∀ l', l' ≤ k → (∀ i, i < l' → lt (Pa p k) (Pa p i) = false) → (∀ i, l' ≤ i → i < k → lt (Pa p i) (Pa p k) = false) → G l' s) → (kas_place p k f l r).kasWp cmp G s
  | 0, l, r, hlr, hr, hf, a, b, h => h l (by omega) a fun i hi => b i (by omega)
  | f + 1, l, r, hlr, hr, hf, a, b, h => by
    unfold kas_place
    by_cases q : l ≥ r
    · rw [if_pos q]
      exact h l (by omega) a fun i hi => b i (by omega)
    · rw [if_neg q]
      show cmp (Pa p k) (Pa p ((l + r) / 2)) _ s
      refine hc _ _ _ (hp.below h0 _) (hp.below h0 _) ?_
      cases e : lt (Pa p k) (Pa p ((l + r) / 2)) with
      | true =>
        show (kas_place p k f l ((l + r) / 2)).kasWp cmp G s
        exact place_ok O hc h0 hp hu f l ((l + r) / 2) (by omega) (by omega) (by omega) a (fun i h1 h2 => O.trans _ _ _ (O.asymm _ _ e) (hu _ _ h1 h2)) h
      | false =>
        show (kas_place p k f ((l + r) / 2 + 1) r).kasWp cmp G s
        exact place_ok O hc h0 hp hu f ((l + r) / 2 + 1) r (by omega) (by omega) (by omega) (fun i hi => O.trans _ _ _ (hu i ((l + r) / 2) (by omega) (by omega)) e) b h

theorem bin_ok (O : Ord lt) (hc : ∀ i j C, i < n → j < n → C (lt i j) s → cmp i j C s) (h0 : 0 < n) {G : Array Nat → Shared → Prop} : ∀ (f : Nat) (p : Array Nat) (k : Nat), Shuf n p → Up lt p k → k + f = n →
    (∀ p', Shuf n p' → Up lt p' n → G p' s) → (kas_bin f p k).kasWp cmp G s
  | 0, p, k, hp, hu, hk, h => h p hp (by rw [← hk]; exact hu)
  | f + 1, p, k, hp, hu, hk, h => by
    unfold kas_bin
    rw [KasT.kasWp_bind]
    refine place_ok O hc h0 hp hu k 0 k (Nat.zero_le _) (Nat.le_refl _) (by omega) (fun i hi => by omega) (fun i h1 h2 => by omega) fun l hl a b => ?_
    have hp' : Shuf n (bubble p k (k - l)) := hp.of (bubble_perm _ _ _)
    refine bin_ok O hc h0 f _ (k + 1) hp' ?_ (by omega) h
    have e : ∀ i, Pa (bubble p k (k - l)) i = if i = l then Pa p k else if l < i ∧ i ≤ k then Pa p (i - 1) else Pa p i := fun i => by
      have e := getElem?_bubble (xs := p) (src := k) (by rw [hp.size]; omega) (k - l) (by omega) i
      rw [Pa_get, e, show k - (k - l) = l by omega]
      split
      · rw [Pa_get]
      · split <;> rw [Pa_get]
    intro i j hij hj
    rw [e i, e j]
    by_cases i1 : i = l
    · rw [if_pos i1]
      by_cases j1 : j = l
      · rw [if_pos j1]; exact O.refl _
      · rw [if_neg j1, if_pos (by omega)]; exact b _ (by omega) (by omega)
    · rw [if_neg i1]
      by_cases j1 : j = l
      · rw [if_pos j1, if_neg (by omega)]; exact a _ (by omega)
      · rw [if_neg j1]
        by_cases i2 : l < i ∧ i ≤ k
        · rw [if_pos i2, if_pos (by omega)]; exact hu _ _ (by omega) (by omega)
        · rw [if_neg i2]
          by_cases j2 : l < j ∧ j ≤ k
          · rw [if_pos j2]
            exact hu _ _ (by omega) (by omega)
          · rw [if_neg j2]; exact hu _ _ hij (by omega)

/-- the library's sort puts in order -/
theorem sort_ok (O : Ord lt) (hc : ∀ i j C, i < n → j < n → C (lt i j) s → cmp i j C s) (h0 : 0 < n) {G : Array Nat → Shared → Prop} (h : ∀ p, Shuf n p → Up lt p n → G p s) : (kas_sort n).kasWp cmp G s := by
  unfold kas_sort
  rw [KasT.kasWp_bind]
  refine count_ok O hc h0 (p := List.toArray (List.range n)) (by unfold Shuf; simp) fun m p hp h1 hm hu => ?_
  dsimp only
  split
  · rename_i hlt
    rw [show max m 1 = m by omega]
    exact bin_ok O hc h0 (n - m) p m hp hu (by omega) h
  · have : m = n := by omega
    subst this
    exact h p hp hu
end
end Mine
end

section
open PySem PySem.W PySem.Calls PyProof.Rows
namespace Mine

theorem lexLt_asymm : ∀ (a b : List Int), lexLt a b = true → lexLt b a = false
  | [], [], h => by cases h
  | [], _ :: _, _ => rfl
  | _ :: _, [], h => by cases h
  | x :: a, y :: b, h => by
    unfold lexLt at h ⊢
    by_cases e : x = y
    · subst e
      rw [if_pos rfl] at h ⊢
      exact lexLt_asymm a b h
    · rw [if_neg e] at h
      rw [if_neg (Ne.symm e)]
      simp only [decide_eq_true_eq, decide_eq_false_iff_not] at h ⊢
      omega
theorem lexLt_trans : ∀ (a b c : List Int), lexLt b a = false → lexLt c b = false → lexLt c a = false
  | _, _, [], _, h => by
    rename_i a b h1
    cases b with
    | nil => exact h1
    | cons y b => cases h
  | a, [], z :: c, h1, _ => by
    cases a with
    | nil => rfl
    | cons x a => cases h1
  | [], _ :: _, _ :: _, _, _ => rfl
  | x :: a, y :: b, z :: c, h1, h2 => by
    unfold lexLt at h1 h2 ⊢
    by_cases e : z = x
    · subst e
      rw [if_pos rfl]
      by_cases e1 : y = z
      · subst e1
        rw [if_pos rfl] at h1 h2
        exact lexLt_trans a b c h1 h2
      · rw [if_neg e1] at h1
        rw [if_neg (Ne.symm e1)] at h2
        simp only [decide_eq_false_iff_not] at h1 h2
        omega
    · rw [if_neg e]
      simp only [decide_eq_false_iff_not]
      by_cases e1 : y = x
      · subst e1
        rw [if_neg e] at h2
        simpa using h2
      · rw [if_neg e1] at h1
        simp only [decide_eq_false_iff_not] at h1
        by_cases e2 : z = y
        · subst e2; omega
        · rw [if_neg e2] at h2
          simp only [decide_eq_false_iff_not] at h2
          omega

def lexF (fin : Bool) : List Int → List Int → Bool
  | x :: xs, y :: ys => if x = y then lexF fin xs ys else decide (x < y)
  | _, _ => fin
theorem lexF_lt : ∀ (x y : List Int), lexF (decide (x.length < y.length)) x y = lexLt x y
  | [], [] => rfl
  | [], _ :: _ => by simp [lexF, lexLt]
  | _ :: _, [] => by simp [lexF, lexLt]
  | x :: xs, y :: ys => by
    simp only [lexF, lexLt, List.length_cons, Nat.add_lt_add_iff_right]
    rw [lexF_lt xs ys]

section
variable {prog : Program} {w : World} {A : Around} {E : Value → Shared → Prop} {s : Shared}

theorem kat_ints {b fin : Bool} {Q : Bool → Shared → Prop} : ∀ {xs ys : List Value} {x y : List Int} (i : Nat), IntsAre xs x → IntsAre ys y → Q (lexF fin x y) s → KatLex prog w A b fin Q (xs.zip ys) i s
  | _, _, _, _, i, .nil, _, h => by
    rw [List.zip_nil_left]; exact kat_nil (by simpa [lexF] using h)
  | _, _, _, _, i, .cons a t hx, .nil, h => by
    rw [List.zip_nil_right]; exact kat_nil (by simpa [lexF] using h)
  | _, _, _, _, i, .cons a t hx, .cons c u hy, h => by
    rw [List.zip_cons_cons]
    refine kat_cons (wpAny_eqBool_int ?_)
    by_cases e : a = c
    · subst e
      rw [show (a == a) = true from by simp]
      exact kat_yes (kat_ints (i + 1) hx hy (by simpa [lexF] using h))
    · rw [show (a == c) = false from by simpa using e]
      refine kat_no ?_
      have h' : Q (decide (a < c)) s := by simpa [lexF, e] using h
      cases hb : (b && i == 0) with
      | true => exact oneLt_int h'
      | false => exact kat_one _ _ (lt_int h')

theorem tup_key_lt {b : Bool} {u v : Value} {x y : List Int} {Q : Bool → Shared → Prop} (hx : TupOk s.heap u x) (hy : TupOk s.heap v y) (h : Q (lexLt x y) s) : wpAny (model prog w) A (keyLt' (tuples' b) u v) Q E s := by
  obtain ⟨a, oa, na, xs, rfl, hoa, hca, hda, hia⟩ := hx
  obtain ⟨c, oc, nc, ys, rfl, hoc, hcc, hdc, hic⟩ := hy
  refine kat_lt hoa hda hoc hdc (kat_ints 0 hia hic ?_)
  have l1 : xs.size = x.length := by have := hia.length; simpa using this
  have l2 : ys.size = y.length := by have := hic.length; simpa using this
  rw [l1, l2, lexF_lt]
  exact h

/-- what a reverse sort leaves -/
structure Sorted (lt : Value → Value → Bool) (vs ys : List Value) : Prop where
  perm : ys.Perm vs
  desc : ys.Pairwise fun u v => lt u v = false

theorem out_sorted {lt : Value → Value → Bool} {vs : List Value} {p : Array Nat} (hp : Shuf vs.length p) (hu : Up (fun i j => lt (vs.reverse.getD i .none) (vs.reverse.getD j .none)) p vs.length) :
    Sorted lt vs (p.toList.map fun i => vs.reverse.getD i .none).reverse := by
  have hr : (List.range vs.length).map (fun i => vs.reverse.getD i Value.none) = vs.reverse := by
    apply List.ext_getElem
    · simp
    · intro i h1 h2
      simp only [List.getElem_map, List.getElem_range]
      rw [List.getD_eq_getElem?_getD, List.getElem?_eq_getElem h2]
      rfl
  refine ⟨?_, ?_⟩
  · have h1 : (p.toList.map fun i => vs.reverse.getD i Value.none).Perm vs.reverse := by
      have := List.Perm.map (fun i => vs.reverse.getD i Value.none) hp
      rwa [hr] at this
    exact (List.reverse_perm _).trans (h1.trans (List.reverse_perm _))
  · rw [List.pairwise_reverse, List.pairwise_map, List.pairwise_iff_getElem]
    intro i j hi hj hij
    have hsz := hp.size
    have e : ∀ k (hk : k < p.toList.length), p.toList[k] = Pa p k := fun k hk => by
      rw [Pa_get]
      simp at hk
      simp [hk]
    rw [e i hi, e j hj]
    refine hu i j (by omega) ?_
    simpa [hsz] using hj

theorem Ord.of {lt : Value → Value → Bool} (ha : ∀ u v, lt u v = true → lt v u = false) (ht : ∀ u v x, lt v u = false → lt x v = false → lt x u = false) (f : Nat → Value) : Ord fun i j => lt (f i) (f j) :=
  ⟨fun _ _ h => ha _ _ h, fun _ _ _ h1 h2 => ht _ _ _ h1 h2⟩

theorem getD_mem {vs : List Value} {i : Nat} (h : i < vs.length) : vs.reverse.getD i .none ∈ vs := by
  rw [List.getD_eq_getElem?_getD, List.getElem?_eq_getElem (by simpa using h)]
  exact List.mem_reverse.mp (List.getElem_mem _)

/-- the text of list.sort(reverse=True) -/
theorem sort_core {a : Addr} {vs : List Value} {κ : SortKind} {lt : Value → Value → Bool} {Q : PySem.Fin → Shared → Prop} (hl : PL s.heap a vs) (h2 : 2 ≤ vs.length) (h64 : vs.length < 64)
    (hκ : ∀ (s' : Shared) (E' : Value → Shared → Prop) (Q' : SortKind → Shared → Prop), Kp (· = a) s s' → Q' κ s' → wpAny (model prog w) A (keyKind' vs.toArray) Q' E' s')
    (hc : ∀ (s' : Shared) (u v : Value) (C : Bool → Shared → Prop), Kp (· = a) s s' → u ∈ vs → v ∈ vs → C (lt u v) s' → wpAny (model prog w) A (keyLt' κ u v) C (fun _ _ => False) s')
    (ha : ∀ u v, lt u v = true → lt v u = false) (ht : ∀ u v x, lt v u = false → lt x v = false → lt x u = false)
    (h : ∀ s' ys, Kp (· = a) s s' → PL s'.heap a ys → Sorted lt vs ys → Q (.done (.ret .none)) s') :
    wpAny (model prog w) A (Builtin.«list.sort» ⟨[.ref a], [(Str.ofString "reverse", .bool true)]⟩) Q E s := by
  obtain ⟨o, n, e, hcl, hdi, hd⟩ := id hl
  rw [list_sort_rev]
  refine wpAny_bind (listItems_at e hd ?_)
  refine wpAny_bind (listUpdate_at e hd ?_ (by rw [List.size_toArray, sizeLine_eq]; omega) (Nat.zero_le _))
  have k1 : Kp (· = a) s { s with heap := s.heap.update a (Obj.mapSeq fun _ => (#[] : Array Value)) } := Kp.same (t := s.toks) (Heap.SameBut.update ..) rfl
  have p1 : PL ({ s with heap := s.heap.update a (Obj.mapSeq fun _ => (#[] : Array Value)) } : Shared).heap a [] := PL.seq e hcl hdi hd rfl
  generalize ({ s with heap := s.heap.update a (Obj.mapSeq fun _ => (#[] : Array Value)) } : Shared) = s1 at k1 p1 ⊢
  obtain ⟨o1, n1, e1, hc1, hi1, hd1⟩ := p1
  refine wpAny_bind (seqEpoch_at e1 hd1 ?_)
  refine wpAny_bind (mk_tuple (fun T s2 _ _ k2 => ?_) (by show vs.toArray.toList.length ≤ sizeLine; rw [sizeLine_eq]; simp; omega))
  refine wpAny_bind (mk_list (fun D s3 _ _ k3 => ?_) (by show 0 ≤ sizeLine; omega))
  refine wpAny_holding ?_
  have k03 : Kp (· = a) s s3 := (k1.trans (k2.mono fun _ q => q.elim)).trans (k3.mono fun _ q => q.elim)
  have e3 : s3.heap.get? a = some o1 := k3.keep _ _ (fun q => q) (k2.keep _ _ (fun q => q) e1)
  simp only [if_true]
  refine wpAny_bind (wpAny_rule ?_)
  have hn2 : ¬ vs.toArray.size < 2 := by rw [List.size_toArray]; omega
  rw [if_neg hn2, if_neg hn2]
  refine wpAny_bind (hκ s3 _ _ k03 ?_)
  have hz : (vs.toArray.zip vs.toArray).reverse = (List.toArray vs.reverse).zip (List.toArray vs.reverse) := by
    have := kat_pairs (ks := vs) (vs := vs) true rfl
    simpa [katRev] using this
  rw [hz]
  have hlr : vs.reverse.length = vs.length := List.length_reverse
  refine wpAny_bind (wpAny_mono (kat_run (Q := fun st' s' => s' = s3 ∧ ∃ p : Array Nat, p.size = vs.reverse.length ∧ arrOf st' = p.map (kas_item ((List.toArray vs.reverse).zip (List.toArray vs.reverse))) ∧ failedOf st' = none ∧ Shuf vs.length p ∧ Up (fun i j => lt (vs.reverse.getD i .none) (vs.reverse.getD j .none)) p vs.length)
    (G := fun p s' => s' = s3 ∧ Shuf vs.length p ∧ Up (fun i j => lt (vs.reverse.getD i .none) (vs.reverse.getD j .none)) p vs.length) rfl (by omega) (by omega) (fun p' st' s' a1 a2 a3 a4 => ⟨a4.1, p', a1, a2, a3, a4.2⟩) ?_) ?_ fun _ _ x => x)
  · rw [hlr]
    refine sort_ok (Ord.of ha ht _) (fun i j C hi hj hC => ?_) (by omega) fun p hp hu => ⟨rfl, hp, hu⟩
    exact hc s3 _ _ C k03 (getD_mem hi) (getD_mem hj) hC
  · rintro ⟨⟨⟩, st'⟩ s' ⟨rfl, p, hps, har, hf, hp, hu⟩
    dsimp only
    refine wpAny_bind (seqEpoch_at e3 hd1 ?_)
    have hout : (arrOf st').map (·.2) = List.toArray (p.toList.map fun i => vs.reverse.getD i Value.none) := kat_snds rfl har
    rw [hout]
    refine wpAny_bind (listUpdate_at e3 hd1 ?_ (Nat.zero_le _) ?_)
    · rw [hf]
      simp only [bne_self_eq_false, Bool.false_eq_true, if_false]
      refine wpAny_pure (h _ _ (k03.trans (Kp.same (t := s'.toks) (Heap.SameBut.update ..) rfl)) (PL.seq e3 hc1 hi1 hd1 ?_) (out_sorted hp hu))
      simp
    · simp only [List.reverse_toArray, List.size_toArray, List.length_reverse, List.length_map, Array.length_toList, hp.size]
      rw [sizeLine_eq]; omega

/-- list.sort(reverse=True) -/
theorem sort_rev {a : Addr} {vs : List Value} {κ : SortKind} {lt : Value → Value → Bool} {Q : Value → Shared → Prop} (hl : PL s.heap a vs) (h2 : 2 ≤ vs.length) (h64 : vs.length < 64)
    (hκ : ∀ (s' : Shared) (E' : Value → Shared → Prop) (Q' : SortKind → Shared → Prop), Kp (· = a) s s' → Q' κ s' → wpAny (model prog w) A.in1 (keyKind' vs.toArray) Q' E' s')
    (hc : ∀ (s' : Shared) (u v : Value) (C : Bool → Shared → Prop), Kp (· = a) s s' → u ∈ vs → v ∈ vs → C (lt u v) s' → wpAny (model prog w) A.in1 (keyLt' κ u v) C (fun _ _ => False) s')
    (ha : ∀ u v, lt u v = true → lt v u = false) (ht : ∀ u v x, lt v u = false → lt x v = false → lt x u = false)
    (h : ∀ s' ys, Kp (· = a) s s' → PL s'.heap a ys → Sorted lt vs ys → Q .none s') :
    wpAny (model prog w) A (call (.builtin "list.sort") [.ref a] [(Str.ofString "reverse", .bool true)]) Q E s := by
  refine wpAny_call_entry_kw slot_list_sort hl.typeIs entry_list_sort ?_ (args_list_sort_rev _ _)
  exact sort_core hl h2 h64 hκ hc ha ht fun s' ys k p q => ⟨.none, rfl, h s' ys k p q⟩

theorem int_typeOf {M : Model} {h : Heap} {i : Int} {t : Tok} : Looks M h (typeOf (.int i t)) (.type "int") := Looks.now

/-- result.sort(reverse=True) on tuples of ints -/
theorem sort_tups {a : Addr} {vs : List Value} {key : Value → List Int} {Q : Value → Shared → Prop} (T : TL s a vs key) (hne : ∀ v ∈ vs, key v ≠ []) (h2 : 2 ≤ vs.length) (h64 : vs.length < 64)
    (h : ∀ s' ys, Kp (· = a) s s' → PL s'.heap a ys → Sorted (fun u v => lexLt (key u) (key v)) vs ys → Q .none s') :
    wpAny (model prog w) A (call (.builtin "list.sort") [.ref a] [(Str.ofString "reverse", .bool true)]) Q E s := by
  have tup : ∀ {s' : Shared} {v : Value}, Kp (· = a) s s' → v ∈ vs → TupOk s'.heap v (key v) := fun k hv => T.tup' k (fun _ q => .inl q) hv
  refine sort_rev (κ := tuples' true) (lt := fun u v => lexLt (key u) (key v)) T.ls h2 h64 (fun s' E' Q' k hq => ?_) (fun s' u v C k hu hv hC => tup_key_lt (tup k hu) (tup k hv) hC) (fun u v => lexLt_asymm _ _) (fun u v x => lexLt_trans _ _ _) h
  have kt : ∀ (l : List Value), (∀ v ∈ l, v ∈ vs) → ∃ fs : List Value, KatTups s'.heap l fs ∧ fs.length = l.length ∧ ∀ v ∈ fs, ∃ i t, v = .int i t := by
    intro l
    induction l with
    | nil => exact fun _ => ⟨[], KatTups.nil, rfl, fun _ q => nomatch q⟩
    | cons v l ih =>
      intro hl
      obtain ⟨fs, a1, a2, a3⟩ := ih fun u hu => hl u (.tail _ hu)
      obtain ⟨b, o, n, xs, rfl, e, hc, hd, hi⟩ := tup k (hl v (.head _))
      have hk := hne _ (hl _ (.head _))
      generalize key (.ref b) = t at hi hk
      generalize hxl : xs.toList = l' at hi
      cases hi with
      | nil => exact absurd rfl hk
      | cons i tk hi =>
        have h0 : xs[0]? = some (.int i tk) := by rw [← Array.getElem?_toList, hxl]; rfl
        exact ⟨.int i tk :: fs, KatTups.cons e hc hd h0 a1, by simp [a2], fun v hv => by
          rcases List.mem_cons.mp hv with q | q
          · exact ⟨i, tk, q⟩
          · exact a3 v q⟩
  obtain ⟨fs, a1, a2, a3⟩ := kt vs fun _ q => q
  refine kat_kind (T := .type "int") a1 (by omega) (fun v hv => ?_) (by decide) ?_
  · obtain ⟨i, t, rfl⟩ := a3 v hv
    exact int_typeOf
  · exact hq
end
end Mine
end

section
open PySem PySem.W PySem.Calls PyProof.Rows
namespace Mine

set_option maxRecDepth 100000 in
set_option maxHeartbeats 4000000 in
theorem sort_none (a : Addr) (b : Bool) : Builtin.«list.sort» ⟨[.ref a], [(Str.ofString "key", .none), (Str.ofString "reverse", .bool b)]⟩ = Builtin.«list.sort» ⟨[.ref a], [(Str.ofString "reverse", .bool b)]⟩ := by
  rw [list_sort_rev]; rfl

def ilt (u v : Value) : Bool := decide (numOf u < numOf v)
theorem ilt_asymm (u v : Value) (h : ilt u v = true) : ilt v u = false := by
  unfold ilt at *
  simp only [decide_eq_true_eq, decide_eq_false_iff_not] at *
  omega
theorem ilt_trans (u v x : Value) (h : ilt v u = false) (h' : ilt x v = false) : ilt x u = false := by
  unfold ilt at *
  simp only [decide_eq_false_iff_not] at *
  omega

section
variable {prog : Program} {w : World} {A : Around} {E : Value → Shared → Prop} {s : Shared}

theorem ints_kind {vs : List Value} {xs : List Int} (hi : IntsAre vs xs) (h2 : 2 ≤ vs.length) {Q : SortKind → Shared → Prop} (h : Q oneType' s) : wpAny (model prog w) A (keyKind' vs.toArray) Q E s :=
  wpAny_of_eq (ksk_kind (kz := xs) (by simpa using hi) (by simpa using h2)) h
theorem ints_lt {vs : List Value} {xs : List Int} (hi : IntsAre vs xs) {u v : Value} (hu : u ∈ vs) (hv : v ∈ vs) {Q : Bool → Shared → Prop} (h : Q (ilt u v) s) : wpAny (model prog w) A (keyLt' oneType' u v) Q E s := by
  obtain ⟨x, t, rfl⟩ := hi.all u hu
  obtain ⟨y, t', rfl⟩ := hi.all v hv
  exact kat_lt_int h

/-- the text of list.sort(key=lambda x: x, reverse=True) on ints -/
theorem sort_id {a f : Addr} {vs : List Value} {xs : List Int} {Q : PySem.Fin → Shared → Prop} (hl : PL s.heap a vs) (hi : IntsAre vs xs) (h2 : 2 ≤ vs.length) (h64 : vs.length < 64) (hf : IdFn s.heap (.ref f)) (hlim : s.heap.NoLimit) (hroom : A.depth < recursionLimit)
    (h : ∀ s' ys, Kp (· = a) s s' → PL s'.heap a ys → Sorted ilt vs ys → Q (.done (.ret .none)) s') :
    wpAny (model prog w) A (Builtin.«list.sort» ⟨[.ref a], [(Str.ofString "key", .ref f), (Str.ofString "reverse", .bool true)]⟩) Q E s := by
  obtain ⟨o, n, e, hcl, hdi, hd⟩ := id hl
  rw [ksk_t2]
  unfold ksk_tree
  refine wpAny_bind (listItems_at e hd ?_)
  refine wpAny_bind (listUpdate_at e hd ?_ (by rw [List.size_toArray, sizeLine_eq]; omega) (Nat.zero_le _))
  have k1 : Kp (· = a) s { s with heap := s.heap.update a (Obj.mapSeq fun _ => (#[] : Array Value)) } := Kp.same (t := s.toks) (Heap.SameBut.update ..) rfl
  have p1 : PL ({ s with heap := s.heap.update a (Obj.mapSeq fun _ => (#[] : Array Value)) } : Shared).heap a [] := PL.seq e hcl hdi hd rfl
  generalize ({ s with heap := s.heap.update a (Obj.mapSeq fun _ => (#[] : Array Value)) } : Shared) = s1 at k1 p1 ⊢
  obtain ⟨o1, n1, e1, hc1, hi1, hd1⟩ := p1
  refine wpAny_bind (seqEpoch_at e1 hd1 ?_)
  refine wpAny_bind (mk_tuple (fun T s2 _ _ k2 => ?_) (by show vs.toArray.toList.length ≤ sizeLine; rw [sizeLine_eq]; simp; omega))
  refine wpAny_bind (mk_list (fun D s3 hD hD3 k3 => ?_) (by show 0 ≤ sizeLine; omega))
  refine wpAny_holding ?_
  have k03 : Kp (· = a) s s3 := (k1.trans (k2.mono fun _ q => q.elim)).trans (k3.mono fun _ q => q.elim)
  have e2 : s2.heap.get? a = some o1 := k2.keep _ _ (fun q => q) e1
  have e3 : s3.heap.get? a = some o1 := k3.keep _ _ (fun q => q) e2
  have hDa : D ≠ a := fun q => by rw [q, e2] at hD; cases hD
  have hD0 : s.heap.get? D = none := by
    cases q : s.heap.get? D with
    | none => rfl
    | some x =>
      have q1 := k2.keep _ _ (fun q => q) (k1.keep D x hDa q)
      rw [hD] at q1; cases q1
  have f3 : IdFn s3.heap (.ref f) := hf.kp k03 fun b q o' e' => by
    rw [q, e] at e'; cases e'
    exact NotFn.seq hd
  have l3 : s3.heap.NoLimit := let ⟨mc, p, q⟩ := hlim; ⟨mc, Ns.kp k03 (fun r => by
    obtain ⟨o', es, ep, e', d', _⟩ := p
    rw [r, e] at e'; cases e'; rw [hd] at d'; cases d') p, q⟩
  unfold ksk_rest
  refine wpAny_bind (wpAny_rule ?_)
  rw [List.forIn_toArray]
  refine wpAny_bind (ksk_fold (fun i s' => Kp (· = D) s3 s' ∧ ∃ o' n', s'.heap.get? D = some o' ∧ o'.cls = .type "list" ∧ o'.data = .seq (vs.take i).toArray n') vs 0 s3
    ⟨Kp.rfl', _, 0, hD3, rfl, by simp⟩ ?step ?done)
  case step =>
    rintro j x s' hx ⟨k', o', n', e', hc', hd'⟩
    simp only [Nat.zero_add] at hd' ⊢
    have hj : j < vs.length := (List.getElem?_eq_some_iff.mp hx).1
    have f' : IdFn s'.heap (.ref f) := f3.kp k' fun b q o'' e'' => by
      rw [q, hD3] at e''; cases e''
      exact NotFn.seq (n := 0) rfl
    have l' : s'.heap.NoLimit := let ⟨mc, p, q⟩ := l3; ⟨mc, Ns.kp k' (fun r => by
      obtain ⟨o', es, ep, e', d', _⟩ := p
      rw [r, hD3] at e'; cases e'; cases d') p, q⟩
    refine wpAny_bind (wpAny_attempt (lam_call f' l' hroom fun s'' k'' => ?_))
    dsimp only
    have e'' := k''.keep _ _ (fun q => q) e'
    have hlt : (vs.take j).toArray.size ≤ sizeLine := by rw [List.size_toArray, List.length_take, sizeLine_eq]; omega
    refine wpAny_bind (listUpdate_at e'' hd' ?_ hlt (by rw [Array.size_push]; omega))
    obtain ⟨n3, hd3⟩ := Obj.data_mapSeq hd' (·.push x)
    refine wpAny_pure ⟨rfl, (k'.trans (k''.mono fun _ q => q.elim)).trans (Kp.same (t := s''.toks) (Heap.SameBut.update ..) rfl), _, n3, Heap.get?_update_self _ e'' (Obj.isFreed_of_seq hd3), (Obj.cls_mapSeq ..).trans hc', ?_⟩
    rw [hd3, List.take_add_one, hx]
    simp
  case done =>
    rintro s4 ⟨k4, oD, nD, eD, hcD, hdD⟩
    have k04 : Kp (fun b => b = a ∨ b = D) s s4 := (k03.mono fun _ q => .inl q).trans (k4.mono fun _ q => .inr q)
    have f04 : ∀ {s' : Shared}, Kp (fun b => b = a ∨ b = D) s s' → Kp (· = a) s s' := fun k => k.fresh fun c q => q.imp id fun q => by rw [q]; exact hD0
    simp only [Nat.zero_add, List.take_length] at hdD
    refine wpAny_bind (listItems_at eD hdD ?_)
    have e4 : s4.heap.get? a = some o1 := k4.keep _ _ hDa.symm e3
    unfold ksk_end
    dsimp only
    simp only [if_true]
    refine wpAny_bind (wpAny_rule ?_)
    have hn2 : ¬ vs.toArray.size < 2 := by rw [List.size_toArray]; omega
    rw [if_neg hn2, if_neg hn2]
    refine wpAny_bind (ints_kind hi h2 ?_)
    have hz : (vs.toArray.zip vs.toArray).reverse = (List.toArray vs.reverse).zip (List.toArray vs.reverse) := by
      have := kat_pairs (ks := vs) (vs := vs) true rfl
      simpa [katRev] using this
    rw [hz]
    have hlr : vs.reverse.length = vs.length := List.length_reverse
    refine wpAny_bind (wpAny_mono (kat_run (Q := fun st' s' => s' = s4 ∧ ∃ p : Array Nat, p.size = vs.reverse.length ∧ arrOf st' = p.map (kas_item ((List.toArray vs.reverse).zip (List.toArray vs.reverse))) ∧ failedOf st' = none ∧ Shuf vs.length p ∧ Up (fun i j => ilt (vs.reverse.getD i .none) (vs.reverse.getD j .none)) p vs.length)
      (G := fun p s' => s' = s4 ∧ Shuf vs.length p ∧ Up (fun i j => ilt (vs.reverse.getD i .none) (vs.reverse.getD j .none)) p vs.length) rfl (by omega) (by omega) (fun p' st' s' a1 a2 a3 a4 => ⟨a4.1, p', a1, a2, a3, a4.2⟩) ?_) ?_ fun _ _ x => x)
    · rw [hlr]
      refine sort_ok (Ord.of ilt_asymm ilt_trans _) (fun i j C hi' hj hC => ?_) (by omega) fun p hp hu => ⟨rfl, hp, hu⟩
      exact ints_lt hi (getD_mem hi') (getD_mem hj) hC
    · rintro ⟨⟨⟩, st'⟩ s' ⟨rfl, p, hps, har, hfl, hp, hu⟩
      unfold ksk_tail
      dsimp only
      refine wpAny_bind (listUpdate_at eD hdD ?_ (by rw [List.size_toArray, sizeLine_eq]; omega) (Nat.zero_le _))
      refine wpAny_bind (wpAny_letGo ?_)
      have k5 : Kp (· = D) s' { s' with heap := s'.heap.update D (Obj.mapSeq fun _ => (#[] : Array Value)) } := Kp.same (t := s'.toks) (Heap.SameBut.update ..) rfl
      generalize ({ s' with heap := s'.heap.update D (Obj.mapSeq fun _ => (#[] : Array Value)) } : Shared) = s5 at k5 ⊢
      have e5 : s5.heap.get? a = some o1 := k5.keep _ _ hDa.symm e4
      refine wpAny_bind (seqEpoch_at e5 hd1 ?_)
      have hout : (arrOf st').map (·.2) = List.toArray (p.toList.map fun i => vs.reverse.getD i Value.none) := kat_snds rfl har
      rw [hout]
      refine wpAny_bind (listUpdate_at e5 hd1 ?_ (Nat.zero_le _) ?_)
      · rw [hfl]
        simp only [bne_self_eq_false, Bool.false_eq_true, if_false]
        refine wpAny_pure (h _ _ (f04 ((k04.trans (k5.mono fun _ q => .inr q)).trans (Kp.same (t := s5.toks) (Heap.SameBut.update ..) (.inl rfl)))) (PL.seq e5 hc1 hi1 hd1 ?_) (out_sorted hp hu))
        simp
      · simp only [if_true, List.reverse_toArray, List.size_toArray, List.length_reverse, List.length_map, Array.length_toList, hp.size]
        rw [sizeLine_eq]; omega

/-- sorted(l, key=kv, reverse=True) on ints -/
theorem sorted_call {l : Addr} {kv : Value} {vs : List Value} {xs : List Int} {Q : Value → Shared → Prop} (hl : s.heap.IsList l vs.toArray) (hi : IntsAre vs xs) (h2 : 2 ≤ vs.length) (h64 : vs.length < 64) (hk : KeyFn s.heap kv) (hlim : s.heap.NoLimit) (hroom : A.depth < recursionLimit)
    (h : ∀ s' D ys, Kp Nil s s' → s.heap.get? D = none → PL s'.heap D ys → Sorted ilt vs ys → Q (.ref D) s') :
    wpAny (model prog w) A (call (.builtin "sorted") [.ref l] [(Str.ofString "key", kv), (Str.ofString "reverse", .bool true)]) Q E s := by
  refine call_function_entry_kw kind_sorted plain_sorted entry_sorted (ksk_s2 _ _ _) ?_
  unfold Builtin.«sorted»
  refine wpAny_bind (m := checkCount "sorted" 1 1 _) (wpAny_pure ?_)
  refine wpAny_bind (collect_list hl ?_ (by rw [sizeLine_eq]; omega))
  have k1 : Kp Nil s { s with heap := (s.heap.push (seqObj "list" #[] 0)).update s.heap.objs.size (Obj.mapSeq (· ++ vs.toArray)) } := by
    refine ⟨fun b o _ q => ?_, rfl, rfl⟩
    have hlt : b < s.heap.objs.size := Heap.lt_size q
    show ((s.heap.push (seqObj "list" #[] 0)).update s.heap.objs.size (Obj.mapSeq (· ++ vs.toArray))).get? b = some o
    rw [Heap.get?_update_ne _ _ _ _ (Nat.ne_of_lt hlt), Heap.get?_push_ne _ _ _ (Nat.ne_of_lt hlt)]
    exact q
  generalize ({ s with heap := (s.heap.push (seqObj "list" #[] 0)).update s.heap.objs.size (Obj.mapSeq (· ++ vs.toArray)) } : Shared) = s1 at k1 ⊢
  refine wpAny_bind (mk_list (fun D s2 hD hD2 k2 => ?_) (by rw [sizeLine_eq]; omega))
  have k02 : Kp Nil s s2 := k1.trans k2
  have pD : PL s2.heap D vs := ⟨_, 0, hD2, rfl, rfl, rfl⟩
  have hD0 : s.heap.get? D = none := k1.none (fun q => q) hD
  have fin : ∀ s' ys, Kp (· = D) s2 s' → PL s'.heap D ys → Sorted ilt vs ys → Q (.ref D) s' := fun s' ys k p q => h s' D ys ((((k02.mono fun _ q => q.elim).trans k).fresh (Y := Nil)) fun c q => .inr (by rw [q]; exact hD0)) hD0 p q
  refine wpAny_bind (wpAny_holding (wpAny_call_entry_kw slot_list_sort pD.typeIs entry_list_sort ?body (ksk_l2 _ _ _)))
  case body =>
    rcases hk with rfl | hk
    · rw [sort_none]
      refine sort_core (κ := oneType') (lt := ilt) pD h2 h64 (fun s' E' Q' k hq => ints_kind hi h2 hq) (fun s' u v C k hu hv hC => ints_lt hi hu hv hC) ilt_asymm ilt_trans fun s' ys k p q => ⟨.none, rfl, ?_⟩
      exact wpAny_pure ⟨_, rfl, fin s' ys k p q⟩
    · have hk' := hk
      obtain ⟨f, _, _, _, _, _, rfl, _⟩ := hk'
      refine sort_id pD hi h2 h64 (hk.kp k02 fun _ q => q.elim) (let ⟨mc, p, q⟩ := hlim; ⟨mc, Ns.kp k02 (fun q => q) p, q⟩) hroom fun s' ys k p q => ⟨.none, rfl, ?_⟩
      exact wpAny_pure ⟨_, rfl, fin s' ys k p q⟩
end
end Mine
end

section
open PySem PySem.W PySem.Calls PyProof.Rows
namespace Mine

section
variable {α : Type} {lt : α → α → Bool}

/-- lt tells a total preorder -/
structure Pre (lt : α → α → Bool) : Prop where
  asymm : ∀ a b, lt a b = true → lt b a = false
  trans : ∀ a b c, lt b a = false → lt c b = false → lt c a = false

theorem put_perm {xs : List α} {i j : Nat} {v : α} {x : α} (hi : i < xs.length) (hj : xs[j]? = some x) (hij : i ≠ j) : ((xs.set i x).set j v).Perm (xs.set i v) := by
  obtain ⟨hj1, hj2⟩ := List.getElem?_eq_some_iff.mp hj
  have h := List.set_set_perm (as := xs.set i v) (i := i) (j := j) (by simpa using hi) (by simpa using hj1)
  have e1 : (xs.set i v)[j]'(by simpa using hj1) = x := by rw [List.getElem_set_ne hij]; exact hj2
  have e2 : (xs.set i v)[i]'(by simpa using hi) = v := by simp
  rw [e1, e2, List.set_set] at h
  exact h

theorem sd_perm {new : α} {start : Nat} : ∀ (pos : Nat) (xs : List α), pos < xs.length → (sd lt new start xs pos).Perm (xs.set pos new) := by
  intro pos
  induction pos using Nat.strongRecOn with
  | ind pos ih =>
    intro xs hp
    rw [sd]
    split
    · split
      · rename_i h p e
        split
        · refine (ih _ (by omega) _ (by simp; omega)).trans (put_perm hp e (by omega))
        · exact List.Perm.refl _
      · rename_i e
        rw [List.getElem?_eq_none_iff] at e; omega
    · exact List.Perm.refl _
theorem su_perm {new : α} (xs : List α) (pos : Nat) : pos < xs.length → ((su lt xs pos).1.set (su lt xs pos).2 new).Perm (xs.set pos new) ∧ (su lt xs pos).2 < xs.length := by
  fun_induction su lt xs pos with
  | case1 xs pos h v e ih =>
    intro hp
    have hc := (List.getElem?_eq_some_iff.mp e).1
    obtain ⟨a, b⟩ := ih (by simpa using hc)
    have := child_gt lt xs pos
    exact ⟨a.trans (put_perm hp e (by omega)), by simpa using b⟩
  | case2 xs pos h e => exact fun hp => ⟨List.Perm.refl _, hp⟩
  | case3 xs pos h => exact fun hp => ⟨List.Perm.refl _, hp⟩
theorem set_self {xs : List α} {i : Nat} {v : α} (h : xs[i]? = some v) : xs.set i v = xs := by
  obtain ⟨a, b⟩ := List.getElem?_eq_some_iff.mp h
  rw [← b]; exact List.set_getElem_self a
theorem sft_perm {xs : List α} {pos : Nat} : (sft lt xs pos).Perm xs := by
  unfold sft
  split
  · rename_i new e
    have hp := (List.getElem?_eq_some_iff.mp e).1
    obtain ⟨a, b⟩ := su_perm (lt := lt) (new := new) xs pos hp
    refine (sd_perm _ _ (by simpa [su_length] using b)).trans ?_
    rw [List.set_set]
    exact a.trans (by rw [set_self e])
  · exact List.Perm.refl _
theorem hfy_perm : ∀ (k : Nat) (xs : List α), (hfy lt k xs).Perm xs
  | 0, _ => List.Perm.refl _
  | k + 1, xs => (hfy_perm k _).trans sft_perm

/-- from place p on every item is no more than its children -/
def Hp (lt : α → α → Bool) (p : Nat) (xs : List α) : Prop := ∀ i c x y, p ≤ i → (c = 2 * i + 1 ∨ c = 2 * i + 2) → xs[i]? = some x → xs[c]? = some y → lt y x = false
/-- so, but for the hole at pos -/
structure Hole (lt : α → α → Bool) (k pos : Nat) (xs : List α) : Prop where
  a : ∀ i c x y, k ≤ i → i ≠ pos → c ≠ pos → (c = 2 * i + 1 ∨ c = 2 * i + 2) → xs[i]? = some x → xs[c]? = some y → lt y x = false
  b : ∀ c x y, k < pos → (c = 2 * pos + 1 ∨ c = 2 * pos + 2) → xs[(pos - 1) / 2]? = some x → xs[c]? = some y → lt y x = false
/-- pos lies under k -/
inductive Desc (k : Nat) : Nat → Prop
  | refl : Desc k k
  | step {p c : Nat} : Desc k p → (c = 2 * p + 1 ∨ c = 2 * p + 2) → Desc k c
theorem Desc.le {k p : Nat} (d : Desc k p) : k ≤ p := by
  induction d with
  | refl => exact Nat.le_refl _
  | step d h ih => omega
theorem Desc.up {k p : Nat} (d : Desc k p) (h : k < p) : Desc k ((p - 1) / 2) := by
  cases d with
  | refl => omega
  | step d h' =>
    rename_i q
    have : (p - 1) / 2 = q := by omega
    rw [this]; exact d

theorem set_get {xs : List α} {i j : Nat} {v x : α} (h : (xs.set i v)[j]? = some x) : (i = j ∧ x = v) ∨ (i ≠ j ∧ xs[j]? = some x) := by
  rw [List.getElem?_set] at h
  split at h
  · rename_i q
    split at h
    · cases h; exact .inl ⟨q, rfl⟩
    · cases h
  · rename_i q
    exact .inr ⟨q, h⟩

theorem child_min {xs : List α} {pos d : Nat} {u v : α} (O : Pre lt) (hc : xs[child lt xs pos]? = some u) (hd : d = 2 * pos + 1 ∨ d = 2 * pos + 2) (hne : d ≠ child lt xs pos) (hv : xs[d]? = some v) : lt v u = false := by
  unfold child at hc hne
  split at hc
  · rename_i a b ha hb
    split at hc
    · rename_i hl
      simp only [ha, hb, hl, if_true] at hne
      rw [ha] at hc; cases hc
      have : d = 2 * pos + 2 := by omega
      subst this
      rw [hb] at hv; cases hv
      exact O.asymm _ _ hl
    · rename_i hl
      simp only [ha, hb, hl] at hne
      rw [hb] at hc; cases hc
      have : d = 2 * pos + 1 := by simp at hne; omega
      subst this
      rw [ha] at hv; cases hv
      simpa using hl
  · rename_i hno
    have : d = 2 * pos + 2 := by
      rcases hd with q | q
      · exfalso; apply hne; rw [q]
        split
        · rename_i a b ha hb; exact absurd hb (hno a b ha)
        · rfl
      · exact q
    subst this
    exact absurd hv (hno u v hc)
theorem child_or {xs : List α} {pos : Nat} : child lt xs pos = 2 * pos + 1 ∨ child lt xs pos = 2 * pos + 2 := by
  unfold child
  split
  · split
    · exact .inl rfl
    · exact .inr rfl
  · exact .inl rfl

theorem su_hole (O : Pre lt) {k : Nat} (xs : List α) (pos : Nat) : Desc k pos → Hole lt k pos xs →
    Desc k (su lt xs pos).2 ∧ Hole lt k (su lt xs pos).2 (su lt xs pos).1 ∧ xs.length ≤ 2 * (su lt xs pos).2 + 1 := by
  fun_induction su lt xs pos with
  | case1 xs pos h v e ih =>
    intro hd J
    have hg := child_gt lt xs pos
    have hco := child_or (lt := lt) (xs := xs) (pos := pos)
    have hk := hd.le
    have h1 := ih (.step hd hco) ⟨fun i d x y hi hic hdc hcd hx hy => ?_, fun d x y _ hcd hx hy => ?_⟩
    · simpa using h1
    · rcases set_get hx with ⟨q, rfl⟩ | ⟨q, hx'⟩
      · subst q
        rcases set_get hy with ⟨q, rfl⟩ | ⟨q, hy'⟩
        · omega
        · exact child_min O e hcd hdc hy'
      · rcases set_get hy with ⟨q', rfl⟩ | ⟨q', hy'⟩
        · subst q'
          have hpi : (pos - 1) / 2 = i := by omega
          exact J.b _ x _ (by omega) hco (by rw [hpi]; exact hx') e
        · exact J.a i d x y hi (Ne.symm q) (Ne.symm q') hcd hx' hy'
    · have hpp : (child lt xs pos - 1) / 2 = pos := by omega
      rw [hpp] at hx
      rcases set_get hx with ⟨_, rfl⟩ | ⟨q, _⟩
      · rcases set_get hy with ⟨q', rfl⟩ | ⟨q', hy'⟩
        · omega
        · exact J.a (child lt xs pos) d _ y (by omega) (by omega) (by omega) hcd e hy'
      · exact absurd rfl q
  | case2 xs pos h e =>
    intro hd J
    rw [List.getElem?_eq_none_iff] at e
    have := child_lt (lt := lt) h
    omega
  | case3 xs pos h => exact fun hd J => ⟨hd, J, by omega⟩

theorem sd_hole (O : Pre lt) {k : Nat} {new : α} : ∀ (pos : Nat) (xs : List α), pos < xs.length → Desc k pos → Hole lt k pos xs → (∀ c y, (c = 2 * pos + 1 ∨ c = 2 * pos + 2) → xs[c]? = some y → lt y new = false) → Hp lt k (sd lt new k xs pos) := by
  have fin : ∀ (pos : Nat) (xs : List α), Desc k pos → Hole lt k pos xs → (∀ c y, (c = 2 * pos + 1 ∨ c = 2 * pos + 2) → xs[c]? = some y → lt y new = false) → (∀ x, k < pos → xs[(pos - 1) / 2]? = some x → lt new x = false) → Hp lt k (xs.set pos new) := by
    intro pos xs hd J hn hp i c x y hi hc hx hy
    rcases set_get hx with ⟨q, rfl⟩ | ⟨q, hx'⟩
    · subst q
      rcases set_get hy with ⟨q', rfl⟩ | ⟨q', hy'⟩
      · omega
      · exact hn c y hc hy'
    · rcases set_get hy with ⟨q', rfl⟩ | ⟨q', hy'⟩
      · subst q'
        have hpi : (pos - 1) / 2 = i := by omega
        exact hp x (by omega) (by rw [hpi]; exact hx')
      · exact J.a i c x y hi (Ne.symm q) (Ne.symm q') hc hx' hy'
  intro pos
  induction pos using Nat.strongRecOn with
  | ind pos ih =>
    intro xs hl hd J hn
    rw [sd]
    split
    · rename_i hk
      split
      · rename_i p e
        have hup := hd.up hk
        have hupk := hup.le
        split
        · rename_i hlt
          have hle : lt p new = false := O.asymm _ _ hlt
          refine ih _ (by omega) _ (by simp; omega) hup ⟨fun i c x y hi hip hcp hc hx hy => ?_, fun c x y hkp hc hx hy => ?_⟩ fun c y hc hy => ?_
          · rcases set_get hx with ⟨q, rfl⟩ | ⟨q, hx'⟩
            · subst q
              rcases set_get hy with ⟨q', rfl⟩ | ⟨q', hy'⟩
              · omega
              · exact J.b c _ y hk hc e hy'
            · rcases set_get hy with ⟨q', rfl⟩ | ⟨q', hy'⟩
              · omega
              · exact J.a i c x y hi (Ne.symm q) (Ne.symm q') hc hx' hy'
          · rcases set_get hx with ⟨q, rfl⟩ | ⟨q, hx'⟩
            · omega
            · have hgp : lt p x = false := J.a (((pos - 1) / 2 - 1) / 2) ((pos - 1) / 2) x p (hup.up hkp).le (by omega) (by omega) (by omega) hx' e
              rcases set_get hy with ⟨q', rfl⟩ | ⟨q', hy'⟩
              · exact hgp
              · exact O.trans _ _ _ hgp (J.a ((pos - 1) / 2) c p y hupk (by omega) (Ne.symm q') hc e hy')
          · rcases set_get hy with ⟨q', rfl⟩ | ⟨q', hy'⟩
            · exact hle
            · exact O.trans _ _ _ hle (J.a ((pos - 1) / 2) c p y hupk (by omega) (Ne.symm q') hc e hy')
        · rename_i hlt
          refine fin pos xs hd J hn fun x _ hx => ?_
          rw [e] at hx; cases hx
          simpa using hlt
      · rename_i e
        rw [List.getElem?_eq_none_iff] at e; omega
    · rename_i hk
      exact fin pos xs hd J hn fun x h => absurd h hk

theorem sft_hp (O : Pre lt) {k : Nat} {xs : List α} (h : Hp lt (k + 1) xs) (hk : k < xs.length) : Hp lt k (sft lt xs k) := by
  unfold sft
  rw [List.getElem?_eq_getElem hk]
  dsimp only
  obtain ⟨d, J, hl⟩ := su_hole O (k := k) xs k .refl ⟨fun i c x y hi hik hck hc hx hy => h i c x y (by omega) hc hx hy, fun _ _ _ q => by omega⟩
  obtain ⟨_, hq⟩ := su_perm (lt := lt) (new := xs[k]) xs k hk
  have hsl := su_length lt xs k
  refine sd_hole O _ _ (by simp [hsl]; exact hq) d ⟨fun i c x y hi hip hcp hc hx hy => ?_, fun c x y hkp hc hx hy => ?_⟩ fun c y hc hy => ?_
  · rcases set_get hx with ⟨q, _⟩ | ⟨_, hx⟩
    · exact absurd q.symm hip
    · rcases set_get hy with ⟨q, _⟩ | ⟨_, hy⟩
      · exact absurd q.symm hcp
      · exact J.a i c x y hi hip hcp hc hx hy
  · have : c < (((su lt xs k).1).set (su lt xs k).2 xs[k]).length := (List.getElem?_eq_some_iff.mp hy).1
    simp only [List.length_set, hsl] at this
    omega
  · have : c < (((su lt xs k).1).set (su lt xs k).2 xs[k]).length := (List.getElem?_eq_some_iff.mp hy).1
    simp only [List.length_set, hsl] at this
    omega

theorem hfy_hp (O : Pre lt) : ∀ (k : Nat) (xs : List α), k ≤ xs.length → Hp lt k xs → Hp lt 0 (hfy lt k xs)
  | 0, _, _, h => h
  | k + 1, xs, hk, h => hfy_hp O k _ (by rw [sft_length]; omega) (sft_hp O h (by omega))
/-- heapify makes a heap -/
theorem heapify_hp (O : Pre lt) (xs : List α) : Hp lt 0 (hfy lt (xs.length / 2) xs) := by
  refine hfy_hp O _ _ (by omega) fun i c x y hi hc hx hy => ?_
  have := (List.getElem?_eq_some_iff.mp hy).1
  omega
/-- a heap with another root, sifted -/
theorem replace_hp (O : Pre lt) {xs : List α} {v : α} (h : Hp lt 0 xs) (h0 : 0 < xs.length) : Hp lt 0 (sft lt (xs.set 0 v) 0) := by
  refine sft_hp O (fun i c x y hi hc hx hy => ?_) (by simpa using h0)
  rcases set_get hx with ⟨q, _⟩ | ⟨_, hx⟩
  · omega
  · rcases set_get hy with ⟨q, _⟩ | ⟨_, hy⟩
    · omega
    · exact h i c x y (by omega) hc hx hy
/-- the root is least -/
theorem root_least (O : Pre lt) {xs : List α} {r : α} (h : Hp lt 0 xs) (hr : xs[0]? = some r) : ∀ v ∈ xs, lt v r = false := by
  have key : ∀ (i : Nat) (x : α), xs[i]? = some x → lt x r = false := by
    intro i
    induction i using Nat.strongRecOn with
    | ind i ih =>
      intro x hx
      by_cases hi : i = 0
      · subst hi
        rw [hr] at hx; cases hx
        cases e : lt r r with
        | false => rfl
        | true => have := O.asymm _ _ e; rw [e] at this; cases this
      · have hl := (List.getElem?_eq_some_iff.mp hx).1
        have hp : xs[(i - 1) / 2]? = some xs[(i - 1) / 2] := List.getElem?_eq_getElem (by omega)
        exact O.trans _ _ _ (ih _ (by omega) _ hp) (h _ i _ x (by omega) (by omega) hp hx)
  intro v hv
  obtain ⟨i, hi, rfl⟩ := List.getElem_of_mem hv
  exact key i _ (List.getElem?_eq_getElem hi)

variable {β : Type} {lt' : β → β → Bool} {f : β → α}
theorem sd_map (hf : ∀ a b, lt' a b = lt (f a) (f b)) {new : β} {start : Nat} : ∀ (pos : Nat) (xs : List β), (sd lt' new start xs pos).map f = sd lt (f new) start (xs.map f) pos := by
  intro pos
  induction pos using Nat.strongRecOn with
  | ind pos ih =>
    intro xs
    rw [sd, sd]
    split
    · rw [List.getElem?_map]
      cases e : xs[(pos - 1) / 2]? with
      | none => rfl
      | some p =>
        simp only [Option.map_some, hf]
        split
        · rw [ih _ (by omega), List.map_set]
        · rw [List.map_set]
    · rw [List.map_set]
theorem child_map (hf : ∀ a b, lt' a b = lt (f a) (f b)) (xs : List β) (pos : Nat) : child lt (xs.map f) pos = child lt' xs pos := by
  unfold child
  rw [List.getElem?_map, List.getElem?_map]
  cases xs[2 * pos + 1]? with
  | none => rfl
  | some a =>
    cases xs[2 * pos + 2]? with
    | none => rfl
    | some b => simp only [Option.map_some, hf]
theorem su_map (hf : ∀ a b, lt' a b = lt (f a) (f b)) (xs : List β) (pos : Nat) : su lt (xs.map f) pos = ((su lt' xs pos).1.map f, (su lt' xs pos).2) := by
  fun_induction su lt' xs pos with
  | case1 xs pos h v e ih =>
    rw [su, child_map hf, if_pos (by simpa using h), List.getElem?_map, e]
    simp only [Option.map_some]
    rw [← List.map_set, ih]
  | case2 xs pos h e =>
    rw [su, child_map hf, if_pos (by simpa using h), List.getElem?_map, e]
    rfl
  | case3 xs pos h =>
    rw [su, if_neg (by simpa using h)]
theorem sft_map (hf : ∀ a b, lt' a b = lt (f a) (f b)) (xs : List β) (pos : Nat) : (sft lt' xs pos).map f = sft lt (xs.map f) pos := by
  unfold sft
  rw [List.getElem?_map]
  cases e : xs[pos]? with
  | none => rfl
  | some v =>
    simp only [Option.map_some]
    rw [sd_map hf, su_map hf, List.map_set]
theorem hfy_map (hf : ∀ a b, lt' a b = lt (f a) (f b)) : ∀ (k : Nat) (xs : List β), (hfy lt' k xs).map f = hfy lt k (xs.map f)
  | 0, _ => rfl
  | k + 1, xs => by rw [hfy, hfy, hfy_map hf k, sft_map hf]
end
end Mine
end

section
open PySem PySem.W PySem.Calls PyProof.Rows
namespace Mine

theorem mro_obj : mroOf (.type "object") = pure [.type "object"] := by rw [mroOf_type]; kernel_rfl
theorem lookup_obj_new : typeLookup (.type "object") "__new__" = pure (some (.builtin "object.__new__")) := by rw [typeLookup_type, builtinLookup_eq_fast]; kernel_rfl
theorem made_obj : Bind.madeBy (.type "object") = pure (some "object.__new__") := madeBy_type mro_obj lookup_obj_new (by decide +kernel)
theorem called_obj : TypeCalled "object" "object.__new__" "object.__init__" :=
  ⟨by decide +kernel, by decide +kernel, ⟨_, _, mro_obj⟩, made_obj, by decide +kernel, by rw [isSubtype_type]; kernel_rfl, F.slot_object_init⟩
theorem typeCall_obj : checkTypeCall "object" ⟨[], []⟩ = pure () := by kernel_rfl
theorem newCall_obj : checkBuiltinCall "object.__new__" ⟨[.type "object"], []⟩ = pure () := by kernel_rfl
theorem here_obj : Bind.madeHere "object.__new__" (.type "object") = pure () := by
  unfold Bind.madeHere
  have : Bind.staticBase (.type "object") = pure (.type "object") := by
    unfold Bind.staticBase
    simp only [mro_obj, pure_bind, List.forIn_cons, made_obj]
    rfl
  rw [this]
  simp only [pure_bind, made_obj, Option.map_some, bne_self_eq_false, Bool.false_eq_true, if_false]
theorem isType_obj : isType (.type "object") = pure true := rfl
theorem obj_new : Meets (Builtin.«object.__new__» ⟨[.type "object"], []⟩) (fun _ R s => ∀ D (s' : Shared), s.heap.get? D = none → s'.heap.get? D = some { cls := .type "object", data := .plain } → Kp Nil s s' → R (.ok (.ret (.ref D))) s') :=
  .of_wp fun prog w A R s h => by
    unfold Builtin.«object.__new__»
    simp only [isType_obj, pure_bind]
    simp only [Bool.not_true, Bool.false_eq_true, if_false]
    have h1 : ((Manifest.find? "object").elim false fun x => x.mro.any fun t => (Manifest.find? t).elim false fun x => x.noNew) = false := by decide +kernel
    have h2 : typeHasDict (.type "object") = false := by decide +kernel
    have h3 : diesByItsTypesDel "object" = false := by decide +kernel
    simp only [h1, h2, h3, here_obj, pure_bind, Bool.false_eq_true, if_false, List.isEmpty_nil, Bool.not_true, Bool.or_self]
    refine wpAny_bind (mk_obj fun D s' hD hD' k => ?_)
    exact wpAny_pure ⟨_, rfl, h D s' hD hD' k⟩
theorem args_obj_init (a : Value) : argsOk "object.__init__" ⟨[a], []⟩ := F.args_object_init_1 a
theorem obj_init (a : Value) : Meets (Builtin.«object.__init__» ⟨[a], []⟩) (fun _ R s => R (.ok (.ret .none)) s) :=
  .of_wp fun prog w A R s h => wpAny_pure ⟨_, rfl, h⟩

section
variable {prog : Program} {w : World} {A : Around} {E : Value → Shared → Prop} {s : Shared}

theorem call_object {Q : Value → Shared → Prop} (h : ∀ D s', s.heap.get? D = none → s'.heap.get? D = some { cls := .type "object", data := .plain } → Kp Nil s s' → Q (.ref D) s') : wpAny (model prog w) A (call (.type "object") []) Q E s :=
  callType_meets (Q₁ := fun obj s₁ => s₁.TypeIs obj "object" ∧ Q obj s₁) called_obj typeCall_obj newCall_obj F.entry_object_new F.entry_object_init obj_new (fun D s' a b k => ⟨⟨_, b, rfl⟩, h D s' a b k⟩)
    fun obj s₁ hq => ⟨hq.1, args_obj_init obj, _, obj_init obj, rfl, hq.2⟩

/-- what may be walked: a list, or a list's iterator; Y says what the walk turns -/
inductive Src (h : Heap) : Value → List Value → (Addr → Prop) → Prop
  | list {l : Addr} {xs : List Value} : h.IsList l xs.toArray → Src h (.ref l) xs Nil
  | li {it l : Addr} {xs : List Value} {items : Array Value} {i : Nat} : h.IsListIter it l i → h.IsList l items → items.toList.drop i = xs → Src h (.ref it) xs (· = it)

/-- a frame's names, or a cell -/
def Nd (o : Obj) : Prop := (∃ es ep, o.data = .dict es ep) ∨ ∃ v, o.data = .cell v
theorem Nd.seq {o : Obj} {xs : Array Value} {n : Nat} (x : Nd o) (h : o.data = .seq xs n) : False := by
  rcases x with ⟨es, ep, r⟩ | ⟨v, r⟩ <;> (rw [h] at r; cases r)
theorem Nd.fields {o : Obj} {xs : Array Value} (x : Nd o) (h : o.data = .fields xs) : False := by
  rcases x with ⟨es, ep, r⟩ | ⟨v, r⟩ <;> (rw [h] at r; cases r)
theorem Nd.notfn {o : Obj} (x : Nd o) : NotFn o := ⟨(fun fd h => by rcases x with ⟨es, ep, r⟩ | ⟨v, r⟩ <;> (rw [h] at r; cases r)), fun vs h => (x.fields h).elim⟩
theorem Src.kf {X Y : Addr → Prop} {fs : List Addr} {s' : Shared} {v : Value} {xs : List Value} (x : Src s.heap v xs Y) (k : KpF X fs s s') (hX : ∀ a, X a → ∀ o, s.heap.get? a = some o → Nd o) : Src s'.heap v xs Y := by
  have nl : ∀ {l : Addr} {its : Array Value}, s.heap.IsList l its → ¬ X l := fun hl q => let ⟨o, e, hc, _, d⟩ := hl; (hX _ q o e).seq d
  cases x with
  | list hl => exact .list (IsList.kf k (nl hl) hl)
  | li hi hl hd =>
    obtain ⟨o, e, hc, r⟩ := hi
    obtain ⟨sl, e'⟩ := k.get (fun q => (hX _ q o e).fields r) e
    exact .li ⟨_, e', hc, r⟩ (IsList.kf k (nl hl) hl) hd
theorem Src.kp {X Y : Addr → Prop} {s' : Shared} {v : Value} {xs : List Value} (x : Src s.heap v xs Y) (k : Kp X s s') (hX : ∀ a, X a → ∀ o, s.heap.get? a = some o → Nd o) : Src s'.heap v xs Y :=
  x.kf (KpF.of (fs := []) k fun _ h => nomatch h) hX

/-- the iterator at it over l is fit for a walk -/
structure Walk (h : Heap) (it l : Addr) (rest : List Value) : Prop where
  li : LIt h it l rest
  ne : l ≠ it
  ol : ∃ o, h.get? l = some o ∧ o.cls = .type "list"
theorem Walk.kp {X : Addr → Prop} {s' : Shared} {it l : Addr} {rest : List Value} (W : Walk s.heap it l rest) (k : Kp X s s') (h1 : ¬ X it) (h2 : ¬ X l) : Walk s'.heap it l rest :=
  ⟨LIt.kp k h1 h2 W.li, W.ne, let ⟨o, e, c⟩ := W.ol; ⟨o, k.keep _ _ h2 e, c⟩⟩

theorem iter_src {Y : Addr → Prop} {v : Value} {xs : List Value} {Q : Value → Shared → Prop} (x : Src s.heap v xs Y) (h : ∀ I l s', Walk s'.heap I l xs → (Y I ∨ s.heap.get? I = none) → (∀ a, Y a → a = I) → (∃ o, s.heap.get? l = some o ∧ o.cls = .type "list") → Kp Nil s s' → Q (.ref I) s') : wpAny (model prog w) A (pyIter v) Q E s := by
  cases x with
  | @list l xs hl =>
    obtain ⟨o, e, hc, _⟩ := id hl
    refine iter_list hl fun I s' hI hi k => h I l s' ⟨hi, (fun q => by rw [q, hI] at e; cases e), o, k.keep _ _ (fun q => q) e, hc⟩ (.inr hI) (fun _ q => q.elim) ⟨o, e, hc⟩ k
  | @li it l xs items i hi hl hd =>
    have L : LIt s.heap it l xs := .inl ⟨items, i, hi, hl, hd⟩
    obtain ⟨o, e, hc, _⟩ := id hl
    obtain ⟨oi, ei, ci, _⟩ := id hi
    exact iter_li L (h it l s ⟨L, ne_cls "list" "list_iterator" e ei hc ci, o, e, hc⟩ (.inl rfl) (fun _ q => q) ⟨o, e, hc⟩ Kp.rfl')

theorem call_iter {Y : Addr → Prop} {v : Value} {xs : List Value} {Q : Value → Shared → Prop} (x : Src s.heap v xs Y) (h : ∀ I l s', Walk s'.heap I l xs → (Y I ∨ s.heap.get? I = none) → (∀ a, Y a → a = I) → (∃ o, s.heap.get? l = some o ∧ o.cls = .type "list") → Kp Nil s s' → Q (.ref I) s') : wpAny (model prog w) A (call (.builtin "iter") [v]) Q E s := by
  refine call_function_entry (by decide +kernel) (by decide +kernel) kdk_entry_iter (kdk_args_iter _) ?_
  unfold Builtin.«iter»
  refine wpAny_bind (m := someArgs "iter" 1 2 _) (wpAny_of_eq (a := [v]) (by first | rfl | kernel_rfl!) ?_)
  show wpAny _ _ (pyIter v >>= _) _ _ _
  exact wpAny_bind (iter_src x fun I l s' a b b' c d => wpAny_pure ⟨_, rfl, h I l s' a b b' c d⟩)

/-- a frame's own objects are its names and cells -/
theorem Own.data {env : Env} {hp : Heap} {bs : List (Str × Value)} (V : Vs env hp bs) {a : Addr} (q : Own env a) : ∃ o, hp.get? a = some o ∧ Nd o := by
  rcases q with q | ⟨x, q⟩
  · obtain ⟨m, ⟨o, es, ep, e, d, _⟩, _⟩ := V.ns
    exact ⟨o, q ▸ e, .inl ⟨es, ep, d⟩⟩
  · obtain ⟨v, o, e, d⟩ := V.cells x a q
    exact ⟨o, e, .inr ⟨v, d⟩⟩
theorem own_seq {env : Env} {hp : Heap} {bs : List (Str × Value)} (V : Vs env hp bs) {a : Addr} {o : Obj} {xs : Array Value} {n : Nat} (e : hp.get? a = some o) (d : o.data = .seq xs n) : ¬ Own env a := fun q => by
  obtain ⟨o', e', r⟩ := Own.data V q
  rw [e] at e'; cases e'
  exact r.seq d
theorem own_fields {env : Env} {hp : Heap} {bs : List (Str × Value)} (V : Vs env hp bs) {a : Addr} {o : Obj} {xs : Array Value} (e : hp.get? a = some o) (d : o.data = .fields xs) : ¬ Own env a := fun q => by
  obtain ⟨o', e', r⟩ := Own.data V q
  rw [e] at e'; cases e'
  exact r.fields d
theorem Own.nd {env : Env} {hp : Heap} {bs : List (Str × Value)} (V : Vs env hp bs) : ∀ a, Own env a → ∀ o, hp.get? a = some o → Nd o := fun a q o e => by
  obtain ⟨o', e', r⟩ := Own.data V q
  rw [e] at e'; cases e'
  exact r
theorem own_li {env : Env} {hp : Heap} {bs : List (Str × Value)} (V : Vs env hp bs) {it l : Addr} {rest : List Value} (x : LIt hp it l rest) : ¬ Own env it := by
  rcases x with ⟨_, i, ⟨o', e', _, d⟩, _⟩ | ⟨_, o', i, t, e', _, d⟩
  · exact own_fields V e' d
  · exact own_fields V e' d
theorem own_pl {env : Env} {hp : Heap} {bs : List (Str × Value)} (V : Vs env hp bs) {l : Addr} {xs : List Value} (x : PL hp l xs) : ¬ Own env l := let ⟨_, _, e, _, _, d⟩ := x; own_seq V e d
theorem own_list {env : Env} {hp : Heap} {bs : List (Str × Value)} (V : Vs env hp bs) {l : Addr} {xs : Array Value} (x : hp.IsList l xs) : ¬ Own env l := let ⟨_, e, _, _, d⟩ := x; own_seq V e d
end

/-- the ints of a tuple -/
def tkey (h : Heap) : Value → List Int
  | .ref a => match h.get? a with
    | some o => match o.data with
      | .seq vs _ => vs.toList.map numOf
      | _ => []
    | none => []
  | _ => []
theorem TupOk.tkey {h : Heap} {v : Value} {t : List Int} (x : TupOk h v t) : tkey h v = t := by
  obtain ⟨a, o, n, xs, rfl, e, hc, hd, hi⟩ := x
  simp only [Mine.tkey, e, hd]
  exact hi.nums
/-- the list at l holds the tuples ks -/
structure TT (s : Shared) (l : Addr) (xs : List Value) (ks : List (List Int)) : Prop where
  ls : PL s.heap l xs
  tup : ∀ v ∈ xs, TupOk s.heap v (tkey s.heap v)
  ks : xs.map (tkey s.heap) = ks
  len : xs.length < 64
theorem TT.tl {s : Shared} {l : Addr} {xs : List Value} {ks : List (List Int)} (T : TT s l xs ks) : TL s l xs (tkey s.heap) := ⟨T.ls, T.tup, Nat.lt_trans T.len (by decide)⟩
theorem TT.length {s : Shared} {l : Addr} {xs : List Value} {ks : List (List Int)} (T : TT s l xs ks) : ks.length = xs.length := by rw [← T.ks]; simp
/-- no tuple -/
def NT (o : Obj) : Prop := ∀ xs n, o.data = .seq xs n → o.cls ≠ .type "tuple"
theorem Nd.nt {o : Obj} (x : Nd o) : NT o := fun _ _ h => (x.seq h).elim
theorem TupOk.kp' {X : Addr → Prop} {s s' : Shared} {v : Value} {t : List Int} (k : Kp X s s') (x : TupOk s.heap v t) (hX : ∀ a, X a → ∀ o, s.heap.get? a = some o → NT o) : TupOk s'.heap v t := by
  obtain ⟨a, o, n, vs, rfl, e, hc, d, r⟩ := x
  exact ⟨a, o, n, vs, rfl, k.keep _ _ (fun q => hX a q o e _ _ d hc) e, hc, d, r⟩
theorem TT.move {X : Addr → Prop} {s s' : Shared} {l : Addr} {xs ys : List Value} {ks : List (List Int)} (T : TT s l xs ks) (k : Kp X s s') (hX : ∀ a, X a → ∀ o, s.heap.get? a = some o → NT o) (hl : PL s'.heap l ys)
    (hy : ∀ v ∈ ys, v ∈ xs ∨ TupOk s.heap v (tkey s.heap v)) (hn : ys.length = xs.length) : TT s' l ys (ys.map (tkey s.heap)) := by
  have t0 : ∀ v ∈ ys, TupOk s'.heap v (tkey s.heap v) := fun v hv => ((hy v hv).elim (T.tup v) id).kp' k hX
  have e0 : ∀ v ∈ ys, tkey s'.heap v = tkey s.heap v := fun v hv => (t0 v hv).tkey
  exact ⟨hl, fun v hv => by rw [e0 v hv]; exact t0 v hv, List.map_congr_left e0, hn ▸ T.len⟩
theorem TT.kp {X : Addr → Prop} {s s' : Shared} {l : Addr} {xs : List Value} {ks : List (List Int)} (T : TT s l xs ks) (k : Kp X s s') (hl : ¬ X l) (hX : ∀ a, X a → ∀ o, s.heap.get? a = some o → NT o) : TT s' l xs ks := by
  have := T.move k hX (PL.kp k hl T.ls) (fun v hv => .inl hv) rfl
  rwa [T.ks] at this
theorem PL.cls {h : Heap} {l : Addr} {xs : List Value} (x : PL h l xs) {o : Obj} (e : h.get? l = some o) : o.cls = .type "list" := by
  obtain ⟨o', _, e', hc, _⟩ := x
  rw [e] at e'; cases e'; exact hc
theorem not_tup {h : Heap} {l : Addr} {xs : List Value} (x : PL h l xs) : ∀ a, a = l → ∀ o, h.get? a = some o → NT o := fun a q o e _ _ _ r => by
  rw [q] at e
  have := x.cls e
  rw [r] at this; exact absurd this (by decide)
theorem lex_pre : Pre lexLt := ⟨lexLt_asymm, lexLt_trans⟩

section
variable {prog : Program} {w : World} {A : Around} {E : Value → Shared → Prop} {s : Shared} {H : Heap}

theorem heapify_tt {l : Addr} {xs : List Value} {ks : List (List Int)} {Q : Value → Shared → Prop} (G : Gnd H) (hH : On H s) (hl : H.get? l = none) (hh : A.handled = none) (T : TT s l xs ks) (hroom : A.depth + 20 < recursionLimit) (hu : A.units + 300 < cLine)
    (h : ∀ s' ys ks', Kp (· = l) s s' → TT s' l ys ks' → Hp lexLt 0 ks' → ks'.Perm ks → Q .none s') : wpAny (model prog w) A (call (.ref 28) [.ref l]) Q E s := by
  refine heapify_call G hH hl hh T.tl hroom hu fun s' k ls => ?_
  have T' := T.move k (not_tup T.ls) ls (fun v hv => .inl ((hfy_perm _ _).mem_iff.mp hv)) (hfy_perm _ _).length_eq
  rw [hfy_map (lt := lexLt) (fun _ _ => rfl), T.ks, ← T.length] at T'
  exact h s' _ _ k T' (heapify_hp lex_pre _) (hfy_perm _ _)
theorem heapreplace_tt {l : Addr} {xs : List Value} {ks : List (List Int)} {item : Value} {t : List Int} {Q : Value → Shared → Prop} (G : Gnd H) (hH : On H s) (hl : H.get? l = none) (T : TT s l xs ks) (ht : TupOk s.heap item t) (h0 : 0 < xs.length) (hp : Hp lexLt 0 ks) (hroom : A.depth + 20 < recursionLimit) (hu : A.units + 300 < cLine)
    (h : ∀ s' ys ks' r, Kp (· = l) s s' → TT s' l ys ks' → Hp lexLt 0 ks' → ks'.Perm (ks.set 0 t) → Q r s') : wpAny (model prog w) A (call (.ref 21) [.ref l, item]) Q E s := by
  have e0 : tkey s.heap item = t := ht.tkey
  refine heapreplace_call (first := xs[0]) G hH hl T.tl (by rw [e0]; exact ht) (List.getElem?_eq_getElem h0) hroom hu fun s' k ls => ?_
  have T' := T.move k (not_tup T.ls) ls (fun v hv => by
    rcases List.mem_or_eq_of_mem_set ((sft_perm (lt := fun a b => lexLt (tkey s.heap a) (tkey s.heap b))).mem_iff.mp hv) with q | q
    · exact .inl q
    · rw [q, e0]; exact .inr ht) (by rw [sft_length]; simp)
  rw [sft_map (lt := lexLt) (fun _ _ => rfl), List.map_set, T.ks, e0] at T'
  exact h s' _ _ _ k T' (replace_hp lex_pre hp (by rw [T.length]; exact h0)) sft_perm
theorem sort_tt {l : Addr} {xs : List Value} {ks : List (List Int)} {Q : Value → Shared → Prop} (T : TT s l xs ks) (hne : ∀ k ∈ ks, k ≠ []) (h2 : 2 ≤ xs.length)
    (h : ∀ s' ys ks', Kp (· = l) s s' → TT s' l ys ks' → ks'.Perm ks → ks'.Pairwise (fun u v => lexLt u v = false) → Q .none s') :
    wpAny (model prog w) A (call (.builtin "list.sort") [.ref l] [(Str.ofString "reverse", .bool true)]) Q E s := by
  refine sort_tups T.tl (fun v hv => hne _ (by rw [← T.ks]; exact List.mem_map_of_mem hv)) h2 T.len fun s' ys k ls so => ?_
  have T' := T.move k (not_tup T.ls) ls (fun v hv => .inl (so.perm.mem_iff.mp hv)) so.perm.length_eq
  exact h s' _ _ k T' (by rw [← T.ks]; exact so.perm.map _) (List.pairwise_map.mpr so.desc)
end
end Mine
end

section
open PySem PySem.W PySem.Calls PyProof.Rows
namespace Mine

/-- ys are the n largest of xs, falling -/
structure IsTop (n : Nat) (xs ys : List Int) : Prop where
  desc : ys.Pairwise (fun a b => b ≤ a)
  len : ys.length = min n xs.length
  rest : ∃ zs, (ys ++ zs).Perm xs ∧ ∀ y ∈ ys, ∀ z ∈ zs, z ≤ y

abbrev nE (L : Addr) (cd : Value) : Env := envOfC (sName (fdef 5)) (sScope (fdef 5)) L 48 cd
/-- what a part of nlargest's body leaves -/
def Res (env : Env) (Y : Addr → Prop) (s : Shared) (n : Nat) (xs : List Int) (f : Flow) (s' : Shared) : Prop :=
  ∃ D ws ys, f = .ret (.ref D) ∧ s.heap.get? D = none ∧ PL s'.heap D ws ∧ IntsAre ws ys ∧ IsTop n xs ys ∧ Kp (fun a => Y a ∨ Own env a) s s'
/-- what the parts may turn, seen from s -/
def Xf (env : Env) (Y : Addr → Prop) (s : Shared) (a : Addr) : Prop := Y a ∨ Own env a ∨ s.heap.get? a = none
/-- the setting of the parts -/
structure Fm (H : Heap) (env : Env) (Y : Addr → Prop) (s : Shared) : Prop where
  on : On H s
  ownH : ∀ a, Own env a → H.get? a = none
  yH : ∀ a, Y a → H.get? a = none
theorem Fm.of {H : Heap} {env : Env} {Y : Addr → Prop} {s s' : Shared} (F : Fm H env Y s) (k : Kp (Xf env Y s) s s') : On H s' := F.on.kp k fun a q => by
  rcases q with q | q | q
  · exact F.yH a q
  · exact F.ownH a q
  · exact F.on.none q
theorem Xf.none {env : Env} {Y : Addr → Prop} {s s' : Shared} (k : Kp (Xf env Y s) s s') {D : Addr} (h : s'.heap.get? D = none) (hD : ¬ Y D) (hO : ¬ Own env D) : s.heap.get? D = none := by
  by_cases q : Xf env Y s D
  · rcases q with q | q | q
    · exact (hD q).elim
    · exact (hO q).elim
    · exact q
  · exact k.none q h
theorem own_fresh {env : Env} {hp : Heap} {bs : List (Str × Value)} (V : Vs env hp bs) {a : Addr} (e : hp.get? a = none) : ¬ Own env a := fun q => by
  obtain ⟨o, e', _⟩ := Own.data V q
  rw [e] at e'; cases e'
theorem Xf.fin {env : Env} {Y : Addr → Prop} {s s' : Shared} (k : Kp (Xf env Y s) s s') : Kp (fun a => Y a ∨ Own env a) s s' := k.fresh fun c q => by
  rcases q with q | q | q
  · exact .inl (.inl q)
  · exact .inl (.inr q)
  · exact .inr q

theorem isTop_max {x : Int} {xs : List Int} {M : Int} (hm : M ∈ x :: xs) (hx : ∀ y ∈ x :: xs, y ≤ M) : IsTop 1 (x :: xs) [M] where
  desc := List.pairwise_singleton _ _
  len := by simp
  rest := by
    obtain ⟨l1, l2, e⟩ := List.append_of_mem hm
    refine ⟨l1 ++ l2, ?_, fun y hy z hz => ?_⟩
    · rw [e]; exact List.Perm.symm (List.perm_middle (a := M) (l₁ := l1) (l₂ := l2))
    · rw [List.mem_singleton.mp hy]
      exact hx z (by rw [e]; rcases List.mem_append.mp hz with q | q
                     · exact List.mem_append_left _ q
                     · exact List.mem_append_right _ (.tail _ q))

def ifB : Stmt → List Stmt
  | .If _ b _ _ => b
  | _ => []
def nBody (i : Nat) : Stmt := (sBody (fdef 5)).getD i (.Pass default)

section
variable {prog : Program} {w : World} {A : Around} {E : Value → Shared → Prop} {s : Shared} {H : Heap}

theorem nl_one {L : Addr} {cd v kv : Value} {Y : Addr → Prop} {bs : List (Str × Value)} {vs : List Value} {xs : List Int} {nv : Value} (G : Gnd H) (F : Fm H (nE L cd) Y s) (V : Vs (nE L cd) s.heap bs) (hb : Has bs [("n", nv), ("iterable", v), ("key", kv)])
    (src : Src s.heap v vs Y) (hi : IntsAre vs xs) (h2 : 2 ≤ vs.length) (kf : KeyFn s.heap kv) (hh : A.handled = none) (hroom : A.depth < recursionLimit) :
    wpAny (model prog w) A (execs (ifB (nBody 0)) (nE L cd)) (Res (nE L cd) Y s 1 xs) E s := by
  have V := V.weak hb
  have hX : ∀ a, Own (nE L cd) a → Xf (nE L cd) Y s a := fun a q => .inr (.inl q)
  refine wpAny_execs_cons (wpAny_Assign_Name (call_one G F.on (x := "iter") (by decide) boot_iter (V.name rfl (call_iter src fun I l s₁ W hI hYI hl k₁ => ?_))))
  have K1 : Kp (Xf (nE L cd) Y s) s s₁ := k₁.mono fun _ q => q.elim
  have V1 := V.kp k₁ fun _ q => q.elim
  have hIX : Xf (nE L cd) Y s I := hI.imp id .inr
  have hIO : ¬ Own (nE L cd) I := own_li V1 W.li
  have hlO : ¬ Own (nE L cd) l := fun q => by
    obtain ⟨o, e, hc⟩ := W.ol
    rcases W.li with ⟨items, i, _, hl', _⟩ | ⟨q', _⟩
    · exact own_list V1 hl' q
    · rw [q'] at W
      cases vs with
      | nil => cases h2
      | cons _ _ => cases q'
  refine V1.put K1 hX fun s₂ V2 K2 k₂ => ?_
  dsimp only
  have W2 := W.kp k₂ hIO hlO
  have f2 : KeyFn s₂.heap kv := (kf.kp k₁ fun _ q => q.elim).kp k₂ fun a q o e => (Own.nd V1 a q o e).notfn
  refine wpAny_execs_cons (wpAny_Assign_Name (wpAny_Call_NameR (gl_bi G (F.of K2) (by decide) boot_object (PySem.callWith_type rfl (PyProof.Rows.evalArgs_none (call_object fun D s₃ hD hD3 k₃ => ?_))))))
  have K3 := K2.trans (k₃.mono fun _ q => q.elim)
  refine (V2.kp k₃ fun _ q => q.elim).put K3 hX fun s₄ V4 K4 k₄ => ?_
  dsimp only
  have k24 : Kp (Own (nE L cd)) s₂ s₄ := (k₃.mono fun _ q => q.elim).trans k₄
  have W4 := W2.kp k24 hIO hlO
  have f4 : KeyFn s₄.heap kv := f2.kp k24 fun a q o e => (Own.nd V2 a q o e).notfn
  cases hi with
  | nil => cases h2
  | cons x tx hi =>
    refine wpAny_execs_cons (wpAny_Assign_Name (wpAny_Call_Name_kw (gl_bi G (F.of K4) (by decide) boot_max (callWith_kw (spliced_cons (V4.name rfl (spliced_nil (kws_cons (V4.name rfl (kws_cons (V4.name rfl (kws_nil ?_)))))))))))) 
    show wpAny _ _ (call (.builtin "max") [.ref I] [(Str.ofString "default", .ref D), (Str.ofString "key", kv)]) _ _ _
    obtain ⟨ol, el, _⟩ := W4.ol
    refine max_call hh hroom (NoLimit.on (F.of K4) G.nolim) W4.li ⟨ol, el⟩ W4.ne hi f4 fun s₅ M t k₅ li₅ hm hx => ?_
    have K5 := K4.trans (k₅.mono fun a q => by rw [q]; exact hIX)
    refine (V4.kp k₅ fun a q => by rw [q]; exact hIO).put K5 hX fun s₆ V6 K6 k₆ => ?_
    dsimp only
    refine wpAny_execs_cons (wpAny_Return_some (IfExp_ (wpAny_isTrue_Compare1 (V6.name rfl (V6.name rfl (wpAny_is_other rfl (by simp) (wpAny_truthy_bool ?_)))))))
    simp only [Bool.false_eq_true, if_false]
    refine List_ (spliced_cons (V6.name rfl (spliced_nil (mk_list (fun R s₇ hR hR7 k₇ => ?_) (by show 1 ≤ sizeLine; decide +kernel)))))
    refine ⟨R, [.int M t], [M], rfl, ?_, ⟨_, 0, hR7, rfl, rfl, rfl⟩, .cons M t .nil, isTop_max hm hx, Xf.fin (K6.trans (k₇.un.mono fun _ q => q.elim))⟩
    refine Xf.none K6 hR (fun q => ?_) (own_fresh V6 hR)
    obtain ⟨oI, eI, _⟩ := li₅.obj
    rw [hYI R q, k₆.keep _ _ hIO eI] at hR
    cases hR
end
end Mine
end

section
open PySem PySem.W PySem.Calls PyProof.Rows
namespace Mine

section
variable {M : Model} {A : Around} {E : Value → Shared → Prop} {s : Shared} {env : Env} {bs : List (Str × Value)}
/-- a plain local stored -/
theorem Vs.putL {x : Str} {v : Value} {sp : Shared} {Q : Unit → Shared → Prop} (V : Vs env sp.heap bs) (hk : env.kindOf x = some .local)
    (h : ∀ s', Vs env s'.heap ((x, v) :: bs) → Kp (· = env.locals) sp s' → Q () s') (hf : env.scope.kind = .function := by rfl) (hh : s.heap = sp.heap := by rfl) (hg : s.gens = sp.gens := by rfl) (ho : s.os = sp.os := by rfl) : wpAny M A (storeName env x v) Q E s := by
  rw [← hh] at V
  obtain ⟨ml, a, b⟩ := V.ns
  refine wpAny_storeName_local hk a (fun h' hn hs => ?_) (by rw [hf]; rfl)
  have k := Kp.same (X := (· = env.locals)) (t := s.toks + 1) hs rfl
  refine h _ ⟨⟨_, hn, fun y u hy hky => ?_⟩, fun y u hy hky => ?_, fun y c hc => ?_, V.inj⟩ (k.un hh hg ho)
  · rw [List.lookup_cons] at hy
    cases hb : y == x with
    | true => rw [hb] at hy; cases hy; rw [eq_of_beq hb]; simp
    | false =>
      rw [hb] at hy
      have : y ≠ x := fun q => by rw [q] at hb; simp at hb
      simp only [this, if_false]
      exact b y u hy hky
  · have : (y == x) = false := by
      cases hb : y == x with
      | false => rfl
      | true => rw [eq_of_beq hb, hk] at hky; rcases hky with q | q <;> cases q
    rw [List.lookup_cons, this] at hy
    obtain ⟨c, hc, hv⟩ := V.cl y u hy hky
    obtain ⟨o, e1, d⟩ := hv
    exact ⟨c, hc, o, (hs.2 c (cell_ne_ns a ⟨o, e1, d⟩)).trans e1, d⟩
  · obtain ⟨v0, o, e1, d⟩ := V.cells y c hc
    exact ⟨v0, o, (hs.2 c (cell_ne_ns a ⟨o, e1, d⟩)).trans e1, d⟩
end

theorem TT.kp2 {X : Addr → Prop} {s s' : Shared} {l : Addr} {xs : List Value} {ks : List (List Int)} (T : TT s l xs ks) (k : Kp X s s') (hl : ¬ X l) (hX : ∀ a, X a → ∀ o, s.heap.get? a = some o → NT o ∨ Value.ref a ∉ xs) : TT s' l xs ks := by
  have t0 : ∀ v ∈ xs, TupOk s'.heap v (tkey s.heap v) := fun v hv => by
    have hv' := hv
    obtain ⟨a, o, n, vs, e0, e, hc, d, r⟩ := T.tup v hv
    refine ⟨a, o, n, vs, e0, k.keep _ _ (fun q => ?_) e, hc, d, r⟩
    rcases hX a q o e with z | z
    · exact z _ _ d hc
    · exact z (e0 ▸ hv')
  have e0 : ∀ v ∈ xs, tkey s'.heap v = tkey s.heap v := fun v hv => (t0 v hv).tkey
  exact ⟨PL.kp k hl T.ls, fun v hv => by rw [e0 v hv]; exact t0 v hv, (List.map_congr_left e0).trans T.ks, T.len⟩

theorem TT.snoc {s s' : Shared} {l : Addr} {xs : List Value} {ks : List (List Int)} {y : Value} {t : List Int} (T : TT s l xs ks) (k : Kp (· = l) s s') (hl : PL s'.heap l (xs ++ [y])) (hy : TupOk s.heap y t) (hn : xs.length + 1 < 64) : TT s' l (xs ++ [y]) (ks ++ [t]) := by
  have t0 : ∀ v ∈ xs, TupOk s'.heap v (tkey s.heap v) := fun v hv => (T.tup v hv).kp' k (not_tup T.ls)
  have e0 : ∀ v ∈ xs, tkey s'.heap v = tkey s.heap v := fun v hv => (t0 v hv).tkey
  have ty : TupOk s'.heap y t := hy.kp' k (not_tup T.ls)
  refine ⟨hl, fun v hv => ?_, ?_, by simpa using hn⟩
  · rcases List.mem_append.mp hv with q | q
    · rw [e0 v q]; exact t0 v q
    · rw [List.mem_singleton.mp q, ty.tkey]; exact ty
  · rw [List.map_append, List.map_congr_left e0, T.ks, List.map_singleton, ty.tkey]

theorem NT.fields {o : Obj} {xs : Array Value} (h : o.data = .fields xs) : NT o := fun _ _ q => by rw [h] at q; cases q
theorem LIt.fields {h : Heap} {it l : Addr} {rest : List Value} (x : LIt h it l rest) : ∃ o xs, h.get? it = some o ∧ o.data = .fields xs := by
  rcases x with ⟨_, i, ⟨o', e', _, d⟩, _⟩ | ⟨_, o', i, t, e', _, d⟩
  · exact ⟨_, _, e', d⟩
  · exact ⟨_, _, e', d⟩

section
variable {prog : Program} {w : World} {A : Around} {E : Value → Shared → Prop} {s : Shared} {H : Heap}

theorem unpack {env : Env} {elts : List PySem.Expr} {x1} {pos : Pos} {t : Addr} {items : Array Value} {Q : Unit → Shared → Prop} (hh : A.handled = none) (ht : s.heap.IsTuple t items)
    (h : ∀ s', Kp Nil s s' → wpAny (model prog w) A (assignInOrder ((assignEach elts env).map (·.2)) items.toList) Q E s') (hn : (assignEach elts env).length = items.size := by rfl) (hstar : (assignEach elts env).findIdx? (·.1) = none := by rfl) :
    wpAny (model prog w) A (assign (.Tuple elts x1 pos) env (.ref t)) Q E s :=
  wpAny_assign_Tuple hh ht hn hstar fun h' hx => h _ ⟨fun a o _ e => hx a o (Nat.ne_of_lt (Heap.lt_size e)) e, rfl, rfl⟩

/-- one turn over zip(range(..), it) with the target (i, elem) -/
theorem zip_turn {cenv : Env} {p1 p2 tp : Pos} {kt : Nat} {elt : PySem.Expr} {z TI TO i1 it l D : Addr} {x left step : Int} {rest : List Value} {cs : List (Str × Value)} {fin : Shared → Prop} {I : Nat → Shared → Prop} {n : Nat} (hh : A.handled = none)
    (Z : Zp s.heap z TI TO i1 it l .none x left step rest) (V : Vs cenv s.heap cs) (hlc : l ≠ cenv.locals) (hTI : TI ≠ cenv.locals) (hki : cenv.kindOf "i" = some .local) (hke : cenv.kindOf "elem" = some .local) (hf : cenv.scope.kind = .function)
    (h_end : (left ≤ 0 ∨ rest = []) → ∀ s', LIt s'.heap it l rest → Kp (Zown z TO i1 it) s s' → fin s')
    (h_item : ∀ (E' : Value → Shared → Prop) (v : Value) (r : List Value), rest = v :: r → 0 < left → ∀ s₂ t, Zp s₂.heap z TI TO i1 it l .none (x + step) (left - 1) step r → Vs cenv s₂.heap (("elem", v) :: ("i", .int x t) :: cs) → Kp (fun a => Zown z TO i1 it a ∨ a = cenv.locals) s s₂ →
      wpAny (model prog w) A (eval elt cenv) (fun y s₄ => wpAny (model prog w) A (call (.builtin "list.append") [.ref D, y]) (fun _ s₅ => ∃ m, m < n ∧ I m s₅) E' s₄) E' s₂) :
    CompTurn prog w A cenv (.Tuple [.Name "i" p1, .Name "elem" p2] kt tp) elt [] (.ref z) D fin I n s := by
  intro E'
  by_cases hend : left ≤ 0 ∨ rest = []
  · exact zp_end hh Z hend fun s' li k => h_end hend s' li k
  · have hl : 0 < left := by
      by_cases q : left ≤ 0
      · exact absurd (.inl q) hend
      · omega
    cases hr : rest with
    | nil => exact absurd (.inr hr) hend
    | cons v r =>
      rw [hr] at Z
      refine zp_item Z hl fun s₁ T t Z1 hT hT1 k₁ => ?_
      dsimp only
      refine wpAny_letOwnedTupleGo_zip Z1.hz fun h' hz' hs' => ?_
      have k2 : Kp (· = z) s₁ { s₁ with heap := h' } := Kp.same (t := s₁.toks) hs' rfl
      generalize hS : ({ s₁ with heap := h' } : Shared) = s₂ at k2 ⊢
      have hz2 : IsZip s₂.heap z TI TO .none := by rw [← hS]; exact hz'
      have cne : ∀ {a : Addr} {o : Obj} {T : String}, s.heap.get? a = some o → (∃ vs, o.data = .fields vs) ∨ (∃ vs n, o.data = .seq vs n) → a ≠ cenv.locals := fun e q r => by
        obtain ⟨m, ⟨o', es, ep, e', d, _⟩, _⟩ := V.ns
        rw [r, e'] at e; cases e
        rcases q with ⟨vs, q⟩ | ⟨vs, n, q⟩ <;> (rw [d] at q; cases q)
      have hzc : z ≠ cenv.locals := cne (T := "") Z.hz (.inl ⟨_, rfl⟩)
      have hTOc : TO ≠ cenv.locals := by obtain ⟨a, b, e⟩ := Z.hTO; exact cne (T := "") e (.inr ⟨_, _, rfl⟩)
      have hi1c : i1 ≠ cenv.locals := cne (T := "") Z.r (.inl ⟨_, rfl⟩)
      have hitc : it ≠ cenv.locals := by obtain ⟨o, xs, e, d⟩ := Z.li.fields; exact cne (T := "") e (.inl ⟨_, d⟩)
      have hzT : T ≠ z := fun q => by rw [q, Z.hz] at hT; cases hT
      have zTI : z ≠ TI := ne_cls "zip" "tuple" Z1.hz Z1.hTI
      have zTO : z ≠ TO := by obtain ⟨a, b, e⟩ := Z1.hTO; exact ne_cls "zip" "tuple" Z1.hz e
      have zi1 : z ≠ i1 := ne_cls "zip" "range_iterator" Z1.hz Z1.r
      obtain ⟨oi, hoi, hci⟩ := Z1.li.obj
      have zit : z ≠ it := ne_cls "zip" "list_iterator" Z1.hz hoi (hc' := hci)
      have Z2 : Zp s₂.heap z TI TO i1 it l .none (x + step) (left - 1) step r := ⟨hz2, k2.keep _ _ zTI.symm Z1.hTI, let ⟨a, b, e⟩ := Z1.hTO; ⟨a, b, k2.keep _ _ zTO.symm e⟩, k2.keep _ _ zi1.symm Z1.r, LIt.kp k2 zit.symm Z1.lz Z1.li, Z1.TITO, Z1.lz, Z1.lTO, Z1.li1, Z1.lit⟩
      have k02 : Kp (Zown z TO i1 it) s s₂ := k₁.trans (k2.mono fun a q => .inl q)
      have V2 : Vs cenv s₂.heap cs := V.kp k02 fun a q o => by
        obtain ⟨ob, e, nd⟩ := Own.data V o
        rcases q with q | q | q | q
        · rw [q, Z.hz] at e; cases e; exact nd.fields rfl
        · obtain ⟨a', b', e'⟩ := Z.hTO; rw [q, e'] at e; cases e; exact nd.seq rfl
        · rw [q, Z.r] at e; cases e; exact nd.fields rfl
        · obtain ⟨o', xs, e', d⟩ := Z.li.fields; rw [q, e'] at e; cases e; exact nd.fields d
      refine unpack hh ⟨_, k2.keep _ _ hzT hT1, rfl, 0, rfl⟩ fun s₃ k3 => ?_
      have V3 := V2.kp k3 fun _ q => q.elim
      refine wpAny_assignInOrder_more (show wpAny _ _ (assign (.Name "i" p1) cenv (.int x t)) _ _ _ from wpAny_assign_Name (V3.putL hki (fun s₄ V4 k4 => ?_) hf))
      refine wpAny_assignInOrder_more (show wpAny _ _ (assign (.Name "elem" p2) cenv v) _ _ _ from wpAny_assign_Name (V4.putL hke (fun s₅ V5 k5 => ?_) hf))
      refine wpAny_assignInOrder_none ?_
      have k25 : Kp (· = cenv.locals) s₂ s₅ := ((k3.mono fun _ q => q.elim).trans k4).trans k5
      have Z5 : Zp s₅.heap z TI TO i1 it l .none (x + step) (left - 1) step r := ⟨k25.keep _ _ hzc hz2, k25.keep _ _ hTI Z2.hTI, let ⟨a, b, e⟩ := Z2.hTO; ⟨a, b, k25.keep _ _ hTOc e⟩, k25.keep _ _ hi1c Z2.r, LIt.kp k25 hitc hlc Z2.li, Z2.TITO, Z2.lz, Z2.lTO, Z2.li1, Z2.lit⟩
      simp only [List.forIn_nil]
      refine wpAny_pure ?_
      simp only [if_true]
      exact h_item E' v r hr hl s₅ t Z5 V5 ((k02.mono fun _ q => .inl q).trans (k25.mono fun _ q => .inr q))
end
end Mine
end

section
open PySem PySem.W PySem.Calls PyProof.Rows
namespace Mine

def hd0 (k : List Int) : Int := k.headD 0
theorem kp_live {X : Addr → Prop} {s s' : Shared} (k : Kp X s s') {a : Addr} (h : ∃ o, s.heap.get? a = some o) (hX : ¬ X a) : ∃ o, s'.heap.get? a = some o := let ⟨o, e⟩ := h; ⟨o, k.keep _ _ hX e⟩
theorem ne_of_live {h : Heap} {a b : Addr} (x : ∃ o, h.get? a = some o) (y : h.get? b = none) : a ≠ b := fun q => by
  obtain ⟨o, e⟩ := x
  rw [q, y] at e; cases e

theorem Vs.drop {env : Env} {h : Heap} {bs : List (Str × Value)} {x : Str} {v : Value} (V : Vs env h ((x, v) :: bs)) (hx : bs.lookup x = none) : Vs env h bs := by
  have go : ∀ y u, bs.lookup y = some u → ((x, v) :: bs).lookup y = some u := fun y u e => by
    rw [List.lookup_cons]
    cases hb : y == x with
    | true => rw [eq_of_beq hb, hx] at e; cases e
    | false => exact e
  exact ⟨let ⟨ml, a, b⟩ := V.ns; ⟨ml, a, fun y u e k => b y u (go y u e) k⟩, fun y u e k => V.cl y u (go y u e) k, V.cells, V.inj⟩

section
variable {prog : Program} {w : World} {A : Around} {E : Value → Shared → Prop} {s : Shared} {H : Heap}

/-- result = [tf(elem, i) for i, elem in zip(range(0, -n, -1), it)] -/
theorem zip_comp {L : Addr} {cd : Value} {bs cs : List (Str × Value)} {it l : Addr} {n : Nat} {tn : Tok} {vs : List Value} {xs : List Int} {scope : Scope} {cl : List (Str × Addr)} {elt : PySem.Expr} {p1 p2 tp py pz pr pn pu pi po pzz prr pos spos : Pos} {kt : Nat} {c0 c1 : Nat} {pc0 pc1 : Pos} {tf : Int → Int → List Int} {Q : Flow → Shared → Prop}
    (G : Gnd H) (F : Fm H (nE L cd) (· = it) s) (V : Vs (nE L cd) s.heap bs) (hb : bs.lookup ("n" : Str) = some (.int n tn)) (hbi : bs.lookup ("it" : Str) = some (.ref it)) (W : Walk s.heap it l vs) (hi : IntsAre vs xs) (h64 : vs.length < 64) (hn : n < 64) (h0 : 0 < n) (hh : A.handled = none)
    (hitO : ¬ Own (nE L cd) it) (hlO : ¬ Own (nE L cd) l)
    (hsw : swapsWith (.ListComp elt [⟨.Tuple [.Name "i" p1, .Name "elem" p2] kt tp, .Call (.Name "zip" pz) [.Call (.Name "range" pr) [.Constant (.int 0) c0 pc0, .UnaryOp .USub (.Name "n" pn) pu, .UnaryOp .USub (.Constant (.int 1) c1 pc1) pi] [] prr, .Name "it" po] [] pzz, [], 0⟩] scope pos) (some (.Name "result" py)) spos.line (nE L cd) = pure true)
    (hclos : closureFor scope (nE L cd) = pure cl) (hcl : ClOk (nE L cd) cl) (hcs : FreeOk scope cl (nE L cd) bs cs)
    (hce : cs.lookup ("elem" : Str) = none) (hci : cs.lookup ("i" : Str) = none)
    (hki : ∀ C, (compE scope cl C (nE L cd)).kindOf "i" = some .local) (hke : ∀ C, (compE scope cl C (nE L cd)).kindOf "elem" = some .local)
    (helt : ∀ (C : Addr) (s₂ : Shared) (x i : Int) (tx ti : Tok) (E' : Value → Shared → Prop) (Q' : Value → Shared → Prop), Kp (Xf (nE L cd) (· = it) s) s s₂ → Vs (compE scope cl C (nE L cd)) s₂.heap (("elem", .int x tx) :: ("i", .int i ti) :: cs) →
      (∀ y T s₄, y = .ref T → s₂.heap.get? T = none → TupOk s₄.heap y (tf x i) → Kp Nil s₂ s₄ → Q' y s₄) → wpAny (model prog w) A (eval elt (compE scope cl C (nE L cd))) Q' E' s₂)
    (h : ∀ s' D ts ks rest rs, Vs (nE L cd) s'.heap (("result", .ref D) :: bs) → TT s' D ts ks → ks.map hd0 ++ rs = xs → ks.length = min n xs.length → (∀ k ∈ ks, ∃ x o, k = tf x o) → LIt s'.heap it l rest → IntsAre rest rs → s.heap.get? D = none → Kp (Xf (nE L cd) (· = it) s) s s' → Q .next s')
    (hkind : scope.kind = .function := by rfl) (hnames : (scope.names.all fun x => x.2 != .local || scope.names.lookup x.1 == some .local) = true := by rfl) (hd : ∀ x o, hd0 (tf x o) = x := by intro _ _; rfl) :
    wpAny (model prog w) A (exec (.Assign [.Name "result" py] (.ListComp elt [⟨.Tuple [.Name "i" p1, .Name "elem" p2] kt tp, .Call (.Name "zip" pz) [.Call (.Name "range" pr) [.Constant (.int 0) c0 pc0, .UnaryOp .USub (.Name "n" pn) pu, .UnaryOp .USub (.Constant (.int 1) c1 pc1) pi] [] prr, .Name "it" po] [] pzz, [], 0⟩] scope pos) spos) (nE L cd)) Q E s := by
  have hX : ∀ a, Own (nE L cd) a → Xf (nE L cd) (· = it) s a := fun a q => .inr (.inl q)
  refine comp_assign (cs := cs) hsw hclos hcl ?_ hkind hnames
  refine call_type G F.on (x := "zip") (by decide) boot_zip (spliced_cons (call_type G F.on (x := "range") (by decide) boot_range (spliced_cons (wpAny_Constant_int (k := 0) (pos := pc0) (spliced_cons (UnaryOp_ (V.name hb (neg_int (spliced_cons (UnaryOp_ (wpAny_Constant_int (k := 1) (pos := pc1) (neg_int ?_))))))))))))
  refine spliced_nil (call_range3 (by decide) (by decide) fun r s₁ hr hr1 k₁ => spliced_cons ?_)
  have k01 : Kp Nil s s₁ := k₁.un
  have V1 := V.kp k01 fun _ q => q.elim
  have W1 := W.kp k01 (fun q => q) (fun q => q)
  refine V1.name hbi (spliced_nil ?_)
  obtain ⟨ol, el, _⟩ := id W1.ol
  refine call_zip hr1 (by omega) (by omega) W1.li ⟨ol, el⟩ W1.ne fun s₂ z TI TO i1 Z hz hTO hi1 k₂ => wpAny_pyIter_zip Z.hz ?_
  have k02 : Kp Nil s s₂ := k01.trans k₂
  have V2 := V.kp k02 fun _ q => q.elim
  have W2 := W.kp k02 (fun q => q) (fun q => q)
  have z0 : s.heap.get? z = none := k01.none (fun q => q) hz
  have TO0 : s.heap.get? TO = none := k01.none (fun q => q) hTO
  have i10 : s.heap.get? i1 = none := k01.none (fun q => q) hi1
  refine ⟨bs, V2, hcs, fun D C s₃ X => ⟨fun E' Q' hq => wpAny_pyIter_zip (X.K.keep _ _ (fun q => q) Z.hz) hq, ?_⟩⟩
  have D0 : s.heap.get? D = none := k02.none (fun q => q) X.hD
  have C0 : s.heap.get? C = none := k02.none (fun q => q) X.hC
  have lC : l ≠ C := ne_of_live (let ⟨o, e, _⟩ := W2.ol; ⟨o, e⟩) X.hC
  have lD : l ≠ D := ne_of_live (let ⟨o, e, _⟩ := W2.ol; ⟨o, e⟩) X.hD
  have TIC : TI ≠ C := ne_of_live ⟨_, Z.hTI⟩ X.hC
  have zD : z ≠ D := ne_of_live ⟨_, Z.hz⟩ X.hD
  have TOD : TO ≠ D := by obtain ⟨a, b, e⟩ := Z.hTO; exact ne_of_live ⟨_, e⟩ X.hD
  have i1D : i1 ≠ D := ne_of_live ⟨_, Z.r⟩ X.hD
  have TID : TI ≠ D := ne_of_live ⟨_, Z.hTI⟩ X.hD
  have itD : it ≠ D := by obtain ⟨o, e, _⟩ := Z.li.obj; exact ne_of_live ⟨_, e⟩ X.hD
  have K3 : Kp (Xf (nE L cd) (· = it) s) s s₃ := (k02.trans X.K).mono fun _ q => q.elim
  have Z3 : Zp s₃.heap z TI TO i1 it l .none 0 n (-1) vs := ⟨X.K.keep _ _ (fun q => q) Z.hz, X.K.keep _ _ (fun q => q) Z.hTI, let ⟨a, b, e⟩ := Z.hTO; ⟨a, b, X.K.keep _ _ (fun q => q) e⟩, X.K.keep _ _ (fun q => q) Z.r, LIt.kp X.K (fun q => q) (fun q => q) Z.li, Z.TITO, Z.lz, Z.lTO, Z.li1, Z.lit⟩
  have VE : ∀ {s' : Shared} {S : Addr → Prop}, Vs (nE L cd) s.heap bs → Kp S s s' → (∀ a, S a → a = it ∨ s.heap.get? a = none) → Vs (nE L cd) s'.heap bs := fun V k hS => V.kp k fun a q o => by
    rcases hS a q with r | r
    · exact hitO (r ▸ o)
    · exact own_fresh V r o
  refine ⟨fun m s' => ∃ (j : Nat) (rest : List Value) (rs : List Int) (ts : List Value) (ks : List (List Int)), rest.length = m ∧ j ≤ n ∧ Zp s'.heap z TI TO i1 it l .none (-(j : Int)) ((n : Int) - j) (-1) rest ∧ IntsAre rest rs ∧ TT s' D ts ks ∧ ks.map hd0 ++ rs = xs ∧ ks.length = j ∧ (∀ k ∈ ks, ∃ x o, k = tf x o) ∧ Value.ref TO ∉ ts ∧
    Vs (compE scope cl C (nE L cd)) s'.heap cs ∧ Kp (fun a => a = it ∨ s.heap.get? a = none) s s', vs.length, ?_, ?_⟩
  · exact ⟨0, vs, xs, [], [], rfl, Nat.zero_le _, by simpa using Z3, hi, ⟨X.ls, (fun _ q => nomatch q), rfl, by simp⟩, rfl, rfl, fun _ q => (nomatch q), fun q => (nomatch q), X.V, (k02.trans X.K).mono fun _ q => q.elim⟩
  · rintro m s' ⟨j, rest, rs, ts, ks, hm, hj, Z', hr', T', hks, hlen, hsh, hto, V', K'⟩
    have hklen := T'.length
    have hrl := hr'.length
    have hxl := hi.length
    have hxs : ks.length + rs.length = xs.length := by rw [← hks]; simp
    refine zip_turn hh Z' V' lC TIC (hki C) (hke C) hkind (fun hend s₄ li₄ k₄ => ?_) fun E' v r hrv hlf s₄ t Z4 V4 k₄ => ?_
    · have K4 := K'.trans (k₄.mono (Y := fun a => a = it ∨ s.heap.get? a = none) fun a q => by
        rcases q with q | q | q | q
        · exact .inr (q ▸ z0)
        · exact .inr (q ▸ TO0)
        · exact .inr (q ▸ i10)
        · exact .inl q)
      have T4 : TT s₄ D ts ks := T'.kp2 k₄ (fun q => by
        rcases q with q | q | q | q
        · exact zD q.symm
        · exact TOD q.symm
        · exact i1D q.symm
        · exact itD q.symm) fun a q o e => by
          rcases q with q | q | q | q
          · rw [q, Z'.hz] at e; cases e; exact .inl (NT.fields rfl)
          · exact .inr (q ▸ hto)
          · rw [q, Z'.r] at e; cases e; exact .inl (NT.fields rfl)
          · obtain ⟨o', xs', e', d⟩ := Z'.li.fields; rw [q, e'] at e; cases e; exact .inl (NT.fields d)
      have VE4 := VE V K4 fun a q => q
      have VC4 : Vs (compE scope cl C (nE L cd)) s₄.heap cs := V'.kp k₄ fun a q o => by
        obtain ⟨ob, e, nd⟩ := Own.data V' o
        rcases q with q | q | q | q
        · rw [q, Z'.hz] at e; cases e; exact nd.fields rfl
        · obtain ⟨a', b', e'⟩ := Z'.hTO; rw [q, e'] at e; cases e; exact nd.seq rfl
        · rw [q, Z'.r] at e; cases e; exact nd.fields rfl
        · obtain ⟨o', xs, e', d⟩ := Z'.li.fields; rw [q, e'] at e; cases e; exact nd.fields d
      have LC : L ≠ C := fun q => by
        have := own_fresh V C0
        exact this (.inl q.symm)
      refine VE4.putL rfl fun s₅ V5 k₅ => ?_
      have k5 : Kp (· = L) s₄ s₅ := k₅
      refine ⟨let ⟨m, a, _⟩ := VC4.ns; ⟨m, Ns.kp k5 (fun q => LC q.symm) a⟩, fun s₆ k₆ => ?_⟩
      have hLD : D ≠ L := fun q => own_fresh V D0 (.inl q)
      have hLit : it ≠ L := fun q => hitO (.inl q)
      have hLl : l ≠ L := fun q => hlO (.inl q)
      have CD : D ≠ C := X.DC
      have itC : it ≠ C := fun q => by
        obtain ⟨o, e, _⟩ := W.li.obj
        rw [q, C0] at e; cases e
      have TL5 : TT s₅ D ts ks := T4.kp k5 hLD fun a q o e => (Own.nd VE4 a (.inl q) o e).nt
      have TL6 : TT s₆ D ts ks := TL5.kp k₆ CD fun a q o e => by
        obtain ⟨m', ⟨o', es, ep, e', d, _⟩, _⟩ := VC4.ns
        have e'' : s₅.heap.get? C = some o' := k5.keep _ _ (fun q => LC q.symm) e'
        rw [q, e''] at e; cases e
        exact fun _ _ z => by rw [d] at z; cases z
      refine h s₆ D ts ks rest rs (V5.kp k₆ fun a q o => own_fresh V C0 (q ▸ o)) TL6 hks ?_ hsh (LIt.kp k₆ itC lC (LIt.kp k5 hLit hLl li₄)) hr' D0 ?_
      · rcases hend with q | q
        · omega
        · rw [q] at hrl; simp at hrl; omega
      · refine ((K4.mono (Y := Xf (nE L cd) (· = it) s) fun a q => q.imp id .inr).trans (k5.mono fun a q => .inr (.inl (.inl q)))).trans (k₆.mono fun a q => .inr (.inr (by rw [q]; exact C0)))
    · subst hrv
      cases hr' with
      | @cons x tx _ rs hr' =>
        have K4 := K'.trans (k₄.mono (Y := fun a => a = it ∨ s.heap.get? a = none) fun a q => by
          rcases q with (q | q | q | q) | q
          · exact .inr (q ▸ z0)
          · exact .inr (q ▸ TO0)
          · exact .inr (q ▸ i10)
          · exact .inl q
          · exact .inr (q ▸ C0))
        have T4 : TT s₄ D ts ks := T'.kp2 k₄ (fun q => by
          rcases q with (q | q | q | q) | q
          · exact zD q.symm
          · exact TOD q.symm
          · exact i1D q.symm
          · exact itD q.symm
          · exact X.DC q) fun a q o e => by
            rcases q with (q | q | q | q) | q
            · rw [q, Z'.hz] at e; cases e; exact .inl (NT.fields rfl)
            · exact .inr (q ▸ hto)
            · rw [q, Z'.r] at e; cases e; exact .inl (NT.fields rfl)
            · obtain ⟨o', xs', e', d⟩ := Z'.li.fields; rw [q, e'] at e; cases e; exact .inl (NT.fields d)
            · exact .inl (Own.nd V' a (.inl q) o e).nt
        refine helt C s₄ x (-(j : Int)) tx t E' _ (K4.mono fun a q => q.imp id .inr) V4 fun y T s₅ hy hT hyt k₅ => ?_
        have T5 : TT s₅ D ts ks := T4.kp k₅ (fun q => q) fun _ q => q.elim
        have htl : ts.length < 63 := by omega
        refine append_put T5.ls (fun s₆ ls₆ k₆ => ?_) (by rw [sizeLine_eq]; omega)
        have T6 := T5.snoc k₆ ls₆ hyt (by omega)
        have Z6 : Zp s₆.heap z TI TO i1 it l .none (-((j + 1 : Nat) : Int)) ((n : Int) - ((j + 1 : Nat) : Int)) (-1) r := by
          have k46 : Kp (· = D) s₄ s₆ := (k₅.mono fun _ q => q.elim).trans k₆
          rw [show -(j : Int) + -1 = -((j + 1 : Nat) : Int) by omega, show (n : Int) - j - 1 = (n : Int) - ((j + 1 : Nat) : Int) by omega] at Z4
          exact ⟨k46.keep _ _ zD Z4.hz, k46.keep _ _ TID Z4.hTI, let ⟨a, b, e⟩ := Z4.hTO; ⟨a, b, k46.keep _ _ TOD e⟩, k46.keep _ _ i1D Z4.r, LIt.kp k46 itD lD Z4.li, Z4.TITO, Z4.lz, Z4.lTO, Z4.li1, Z4.lit⟩
        refine ⟨r.length, by simp at hm; omega, j + 1, r, rs, ts ++ [y], ks ++ [tf x (-(j : Int))], rfl, by omega, Z6, hr', T6, ?_, by simp [hlen], ?_, ?_, ?_, ?_⟩
        · rw [← hks]; simp [hd]
        · intro k hk
          rcases List.mem_append.mp hk with q | q
          · exact hsh k q
          · exact ⟨_, _, List.mem_singleton.mp q⟩
        · intro q
          rcases List.mem_append.mp q with q | q
          · exact hto q
          · have q := List.mem_singleton.mp q
            rw [hy] at q
            cases q
            obtain ⟨a', b', e'⟩ := Z4.hTO
            rw [e'] at hT; cases hT
        · have V6 := (V4.kp k₅ fun _ q => q.elim).kp k₆ fun a q o => own_pl (V4.kp k₅ fun _ q => q.elim) T5.ls (q ▸ o)
          exact (V6.drop (by rw [List.lookup_cons]; exact hce)).drop hci
        · exact (K4.trans (k₅.mono fun _ q => q.elim)).trans (k₆.mono fun a q => .inr (by rw [q]; exact D0))
end
end Mine
end

section
open PySem PySem.W PySem.Calls PyProof.Rows
namespace Mine

section
variable {prog : Program} {w : World} {A : Around} {E : Value → Shared → Prop} {s : Shared} {H : Heap}

theorem go_li {elts : List PySem.Expr} {x1} {pos : Pos} {I l T : Addr} {rest : List Value} {Q : Unit → Shared → Prop} (hit : LIt s.heap I l rest) (hQ : Q () s) :
    wpAny (model prog w) A (letOwnedTupleGo (.Tuple elts x1 pos) (.ref I) (.ref T)) Q E s := by
  rcases hit with ⟨_, i, hit, _⟩ | ⟨_, o, i, t, ho, hc, hd⟩
  · exact wpAny_letOwnedTupleGo_listiter hit hQ
  · unfold letOwnedTupleGo
    refine wpAny_bind (wpAny_load ho ?_)
    rw [hc, hd]
    show wpAny _ A (if (["enumerate", "zip", "dict_itemiterator", "dict_reverseitemiterator", "odict_iterator", "itertools.zip_longest", "itertools.pairwise"].contains "list_iterator" &&
        (#[.none, .int i t] : Array Value)[0]? == some (rawInt T)) = true then _ else _) Q E s
    rw [if_neg (by
      intro h
      rw [show (["enumerate", "zip", "dict_itemiterator", "dict_reverseitemiterator", "odict_iterator", "itertools.zip_longest", "itertools.pairwise"].contains "list_iterator") = false from by decide, Bool.false_and] at h
      cases h)]
    exact wpAny_pure hQ

theorem ints_snoc {vs : List Value} {ns : List Int} {x : Int} {t : Tok} (h : IntsAre vs ns) : IntsAre (vs ++ [.int x t]) (ns ++ [x]) := ksk_snoc h

/-- [elem for .. in result] -/
theorem last_comp {L : Addr} {cd : Value} {bs : List (Str × Value)} {D : Addr} {ts : List Value} {ks : List (List Int)} {scope : Scope} {elts : List PySem.Expr} {pe tp pr pos : Pos} {kt : Nat} {tf : Int → Int → List Int} {Q : Value → Shared → Prop}
    (V : Vs (nE L cd) s.heap bs) (hbr : bs.lookup ("result" : Str) = some (.ref D)) (T : TT s D ts ks) (hsh : ∀ k ∈ ks, ∃ x o, k = tf x o) (hh : A.handled = none)
    (hclos : closureFor scope (nE L cd) = pure []) (hke : ∀ C, (compE scope [] C (nE L cd)).kindOf "elem" = some .local)
    (hasg : ∀ (C : Addr) (s₂ : Shared) (T : Addr) (x o : Int) (E' : Value → Shared → Prop) (Q' : Unit → Shared → Prop), TupOk s₂.heap (.ref T) (tf x o) → Vs (compE scope [] C (nE L cd)) s₂.heap [] →
      (∀ s₃ t, Vs (compE scope [] C (nE L cd)) s₃.heap [("elem", .int x t)] → Kp (· = C) s₂ s₃ → Q' () s₃) → wpAny (model prog w) A (assign (.Tuple elts kt tp) (compE scope [] C (nE L cd)) (.ref T)) Q' E' s₂)
    (h : ∀ s' R ws, s.heap.get? R = none → PL s'.heap R ws → IntsAre ws (ks.map hd0) → Kp Nil s s' → Q (.ref R) s')
    (hkind : scope.kind = .function := by rfl) (hnames : (scope.names.all fun x => x.2 != .local || scope.names.lookup x.1 == some .local) = true := by rfl) (hd : ∀ x o, hd0 (tf x o) = x := by intro _ _; rfl) :
    wpAny (model prog w) A (eval (.ListComp (.Name "elem" pe) [⟨.Tuple elts kt tp, .Name "result" pr, [], 0⟩] scope pos) (nE L cd)) Q E s := by
  refine comp_eval (cs := []) hclos trivial ?_ hkind hnames
  refine V.name hbr (iter_list T.ls.isList fun I s₁ hI li₁ k₁ => ?_)
  have V1 := V.kp k₁ fun _ q => q.elim
  refine ⟨bs, V1, trivial, fun R C s₂ X => ⟨fun E' Q' hq => iter_li (LIt.kp X.K (fun q => q) (fun q => q) li₁) hq, ?_⟩⟩
  have R0 : s.heap.get? R = none := k₁.none (fun q => q) X.hD
  have C0 : s.heap.get? C = none := k₁.none (fun q => q) X.hC
  have T1 : TT s₁ D ts ks := T.kp k₁ (fun q => q) fun _ q => q.elim
  obtain ⟨oD, nD, eD, _⟩ := id T1.ls
  obtain ⟨oI, eI, _⟩ := li₁.obj
  have DR : D ≠ R := ne_of_live ⟨_, eD⟩ X.hD
  have DC : D ≠ C := ne_of_live ⟨_, eD⟩ X.hC
  have DI : D ≠ I := by
    obtain ⟨o, n, e, _⟩ := id T.ls
    exact ne_of_live ⟨_, e⟩ hI
  have IR : I ≠ R := ne_of_live ⟨_, eI⟩ X.hD
  have IC : I ≠ C := ne_of_live ⟨_, eI⟩ X.hC
  refine ⟨fun m s' => ∃ (rest ts' : List Value) (kr : List (List Int)) (ws : List Value) (wi : List Int), rest.length = m ∧ LIt s'.heap I D rest ∧ (∀ v ∈ rest, v ∈ ts) ∧ rest.map (tkey s'.heap) = kr ∧ TT s' D ts ks ∧ PL s'.heap R ws ∧ IntsAre ws wi ∧ wi ++ kr.map hd0 = ks.map hd0 ∧ ws.length + rest.length = ts.length ∧
    Vs (compE scope [] C (nE L cd)) s'.heap [] ∧ Kp (fun a => s.heap.get? a = none) s s', ts.length, ?_, ?_⟩
  · have T2 : TT s₂ D ts ks := T1.kp X.K (fun q => q) fun _ q => q.elim
    exact ⟨ts, [], ks, [], [], rfl, LIt.kp X.K (fun q => q) (fun q => q) li₁, fun _ q => q, T2.ks, T2, X.ls, .nil, rfl, by simp, X.V, (k₁.trans X.K).mono fun _ q => q.elim⟩
  · rintro m s' ⟨rest, ts', kr, ws, wi, hm, li, hsub, hkr, T', ls, hwi, hall, hlen, V', K'⟩
    intro E'
    have hks : ∀ v ∈ ts, tkey s'.heap v ∈ ks := fun v hv => by rw [← T'.ks]; exact List.mem_map_of_mem hv
    cases rest with
    | nil =>
      refine next_end hh li fun s₃ li₃ k₃ => ?_
      dsimp only
      simp only [List.map_nil] at hkr
      subst hkr
      refine ⟨let ⟨m, a, _⟩ := V'.ns; ⟨m, Ns.kp k₃ IC.symm a⟩, fun s₄ k₄ => ?_⟩
      refine h s₄ R ws R0 (PL.kp k₄ X.DC (PL.kp k₃ IR.symm ls)) (by rw [← hall]; simpa using hwi) ?_
      exact ((K'.trans (k₃.mono fun a q => by rw [q]; exact hI)).trans (k₄.mono fun a q => by rw [q]; exact C0)).fresh fun _ q => .inr q
    | cons v r =>
      refine next_item li fun s₃ li₃ k₃ => ?_
      dsimp only
      have hv := hsub v (.head _)
      obtain ⟨x, o, hko⟩ := hsh _ (hks v hv)
      have hfI : ∀ a, a = I → ∀ o, s'.heap.get? a = some o → NT o := fun a q o e => by
        obtain ⟨o', xs, e', d⟩ := li.fields
        rw [q, e'] at e; cases e; exact NT.fields d
      have T3 : TT s₃ D ts ks := T'.kp k₃ DI hfI
      have ek3 : ∀ v ∈ ts, tkey s₃.heap v = tkey s'.heap v := fun v hv => ((T'.tup v hv).kp' k₃ hfI).tkey
      have hvt : TupOk s₃.heap v (tf x o) := by rw [← hko, ← ek3 v hv]; exact T3.tup v hv
      obtain ⟨Ta, _, _, _, rfl, _⟩ := id hvt
      refine go_li li₃ ?_
      have V3 := V'.kp k₃ fun a q ow => own_li V' li (q ▸ ow)
      refine hasg C s₃ Ta x o E' _ hvt V3 fun s₄ t V4 k₄ => ?_
      simp only [List.forIn_nil]
      refine wpAny_pure ?_
      simp only [if_true]
      refine V4.name rfl ?_ rfl (by rw [hke C]; rfl) hkind
      have nC : ∀ a, a = C → ∀ o, s₃.heap.get? a = some o → NT o := fun a q o e => (Own.nd V3 a (.inl q) o e).nt
      have T4 : TT s₄ D ts ks := T3.kp k₄ DC nC
      have ls4 : PL s₄.heap R ws := PL.kp k₄ X.DC (PL.kp k₃ IR.symm ls)
      have hwl : ws.length < 64 := by have := T'.len; simp at hlen; omega
      refine append_put ls4 (fun s₅ ls₅ k₅ => ?_) (by rw [sizeLine_eq]; omega)
      have nR : ∀ a, a = R → ∀ o, s₄.heap.get? a = some o → NT o := not_tup ls4
      have T5 : TT s₅ D ts ks := T4.kp k₅ DR nR
      have ek5 : ∀ v ∈ ts, tkey s₅.heap v = tkey s'.heap v := fun v hv => (((T'.tup v hv).kp' k₃ hfI).kp' k₄ nC |>.kp' k₅ nR).tkey
      have V5 := V4.kp k₅ fun a q ow => own_pl V4 ls4 (q ▸ ow)
      have hrk : r.map (tkey s₅.heap) = r.map (tkey s'.heap) := List.map_congr_left fun u hu => ek5 u (hsub u (.tail _ hu))
      refine ⟨r.length, by simp at hm; omega, r, [], r.map (tkey s'.heap), ws ++ [.int x t], wi ++ [x], rfl, LIt.kp k₅ IR DR (LIt.kp k₄ IC DC li₃), fun u hu => hsub u (.tail _ hu), hrk, T5, ls₅, ints_snoc hwi, ?_, by simp at hlen ⊢; omega, V5.drop rfl, ?_⟩
      · rw [← hall, ← hkr, List.map_cons, List.map_cons, hko, hd]
        simp
      · exact ((K'.trans (k₃.mono fun a q => by rw [q]; exact hI)).trans (k₄.mono fun a q => by rw [q]; exact C0)).trans (k₅.mono fun a q => by rw [q]; exact R0)
end
end Mine
end

section
open PySem PySem.W PySem.Calls PyProof.Rows
namespace Mine

theorem lex_head {u v : List Int} (hu : u ≠ []) (hv : v ≠ []) (h : lexLt u v = false) : hd0 v ≤ hd0 u := by
  cases u with
  | nil => exact absurd rfl hu
  | cons x u =>
    cases v with
    | nil => exact absurd rfl hv
    | cons y v =>
      show y ≤ x
      unfold lexLt at h
      split at h
      · omega
      · simpa using h

/-- what nlargest's loop keeps -/
structure Inv (n : Nat) (xs : List Int) (ks : List (List Int)) (rs : List Int) : Prop where
  hp : Hp lexLt 0 ks
  len : ks.length = min n xs.length
  ne : ∀ k ∈ ks, k ≠ []
  ex : ∃ disc, (ks.map hd0 ++ (disc ++ rs)).Perm xs ∧ ∀ d ∈ disc, ∀ k ∈ ks, d ≤ hd0 k

theorem Inv.start {n : Nat} {xs rs : List Int} {ks ks' : List (List Int)} (hp : Hp lexLt 0 ks') (p : ks'.Perm ks) (h : ks.map hd0 ++ rs = xs) (hl : ks.length = min n xs.length) (hne : ∀ k ∈ ks, k ≠ []) : Inv n xs ks' rs :=
  ⟨hp, p.length_eq.trans hl, fun k hk => hne k (p.mem_iff.mp hk), [], by rw [← h]; exact (p.map hd0).append_right _, fun _ q => nomatch q⟩
theorem Inv.top {n : Nat} {xs rs : List Int} {ks : List (List Int)} {r : List Int} (I : Inv n xs ks rs) (h0 : ks[0]? = some r) : ∀ k ∈ ks, hd0 r ≤ hd0 k := fun k hk =>
  lex_head (I.ne k hk) (I.ne r (List.mem_of_getElem? h0)) (root_least lex_pre I.hp h0 k hk)
theorem Inv.keep {n : Nat} {xs rs : List Int} {ks : List (List Int)} {r : List Int} {x : Int} (I : Inv n xs ks (x :: rs)) (h0 : ks[0]? = some r) (hx : ¬ hd0 r < x) : Inv n xs ks rs := by
  obtain ⟨disc, p, d⟩ := I.ex
  refine ⟨I.hp, I.len, I.ne, x :: disc, ?_, fun y hy k hk => ?_⟩
  · refine List.Perm.trans (List.Perm.append_left _ ?_) p
    exact List.perm_middle.symm
  · rcases List.mem_cons.mp hy with q | q
    · have := I.top h0 k hk; omega
    · exact d y q k hk
theorem Inv.replace {n : Nat} {xs rs : List Int} {ks ks' : List (List Int)} {r t : List Int} {x : Int} (I : Inv n xs ks (x :: rs)) (h0 : ks[0]? = some r) (hx : hd0 r < x) (ht : hd0 t = x) (htn : t ≠ []) (hp : Hp lexLt 0 ks') (p' : ks'.Perm (ks.set 0 t)) : Inv n xs ks' rs := by
  obtain ⟨disc, p, d⟩ := I.ex
  cases ks with
  | nil => cases h0
  | cons k0 ks =>
    cases h0
    simp only [List.set_cons_zero] at p'
    refine ⟨hp, p'.length_eq.trans I.len, fun k hk => ?_, hd0 r :: disc, ?_, fun y hy k hk => ?_⟩
    · rcases List.mem_cons.mp (p'.mem_iff.mp hk) with q | q
      · rw [q]; exact htn
      · exact I.ne k (.tail _ q)
    · refine ((p'.map hd0).append_right _).trans (List.Perm.trans ?_ p)
      simp only [List.map_cons, ht, List.cons_append]
      refine List.Perm.trans (List.Perm.cons x (List.perm_middle)) ?_
      refine (List.Perm.swap _ _ _).trans (List.Perm.cons _ ?_)
      rw [← List.append_assoc, ← List.append_assoc]
      exact List.perm_middle.symm
    · have hk' : hd0 r ≤ hd0 k ∧ ∀ d' ∈ disc, d' ≤ hd0 k := by
        rcases List.mem_cons.mp (p'.mem_iff.mp hk) with q | q
        · rw [q, ht]
          exact ⟨by omega, fun d' hd' => by have := d d' hd' r (.head _); omega⟩
        · exact ⟨I.top rfl k (.tail _ q), fun d' hd' => d d' hd' k (.tail _ q)⟩
      rcases List.mem_cons.mp hy with q | q
      · rw [q]; exact hk'.1
      · exact hk'.2 y q
theorem Inv.final {n : Nat} {xs : List Int} {ks ks' : List (List Int)} (I : Inv n xs ks []) (p' : ks'.Perm ks) (hs : ks'.Pairwise fun u v => lexLt u v = false) : IsTop n xs (ks'.map hd0) := by
  obtain ⟨disc, p, d⟩ := I.ex
  have hne : ∀ k ∈ ks', k ≠ [] := fun k hk => I.ne k (p'.mem_iff.mp hk)
  refine ⟨?_, by rw [List.length_map, p'.length_eq]; exact I.len, disc, ?_, fun y hy z hz => ?_⟩
  · rw [List.pairwise_map]
    refine List.Pairwise.imp_of_mem ?_ hs
    intro a b ha hb hab
    exact lex_head (hne a ha) (hne b hb) hab
  · refine ((p'.map hd0).append_right _).trans ?_
    simpa using p
  · obtain ⟨k, hk, rfl⟩ := List.mem_map.mp hy
    exact d z hz k (p'.mem_iff.mp hk)
end Mine
end

section
open PySem PySem.W PySem.Calls PyProof.Rows
namespace Mine

section
variable {prog : Program} {w : World} {A : Around} {E : Value → Shared → Prop} {s : Shared} {H : Heap}

theorem getMethod_list_sort {l : Addr} {o : Obj} {pl : Sem Bool} {Q : Value × List Value → Shared → Prop} (ho : s.heap.get? l = some o) (hc : o.cls = .type "list") (hd : o.dict = none)
    (h : Q (.builtin "list.sort", [.ref l]) s) : wpAny (model prog w) A (getMethod (.ref l) "sort" pl) Q E s := by
  have hT : s.TypeIs (.ref l) "list" := ⟨o, ho, hc⟩
  unfold getMethod
  refine wpAny_bind (wpAny_specialOf hT list_getattribute ?_)
  show wpAny _ A (if (Manifest.canonical "list.__getattribute__" != "object.__getattribute__") = true then _ else _) Q E s
  rw [canon_list_getattribute, if_neg Bool.false_ne_true]
  refine wpAny_bind (wpAny_specialOf hT list_getattr_none ?_)
  refine wpAny_bind (wpAny_specialOf hT PyProof.Rows.slot_list_sort.lookup ?_)
  refine wpAny_bind (wpAny_of_eq F.type_list_sort ?_)
  refine wpAny_bind (wpAny_load ho ?_)
  rw [hd]
  exact wpAny_bind (wpAny_rule (wpAny_pure h))

/-- a call of heapreplace through a plain local -/
theorem call_loc {env : Env} {x : Str} {a : Addr} {st : Stmt} {p pos : Pos} {e : PySem.Expr} {rest : List PySem.Expr} {bs : List (Str × Value)} {Q : Value → Shared → Prop} (V : Vs env s.heap bs) (hv : bs.lookup x = some (.ref a)) (hfn : FnAt H a st)
    (h : wpAny (model prog w) A (spliced (backTo pos (starEach (e :: rest) env))) (fun vs s₁ => On H s₁ ∧ wpAny (model prog w) A (call (.ref a) vs) Q E s₁) E s) (hs : backTo pos (starEach (e :: rest) env) = (false, eval e env) :: backTo pos (starEach rest env) := by rfl)
    (hk : isVar (env.kindOf x) = true := by rfl) (hf : env.scope.kind = .function := by rfl) (hn : (x == ("__classdict__" : Str)) = false := by decide) (hd : (x == ("__debug__" : Str)) = false := by decide) :
    wpAny (model prog w) A (eval (.Call (.Name x p) (e :: rest) [] pos) env) Q E s := by
  obtain ⟨o, pm, c, ho, hdt, hc⟩ := hfn
  refine wpAny_Call_NameR (V.name hv ?_ rfl hk hf hn hd)
  rw [hs] at h ⊢
  exact callWith_function (o := o) (evalArgs_plain (wpAny_mono h (fun vs s₁ h₁ => ⟨⟨h₁.1 _ _ ho, hdt⟩, h₁.2⟩) fun _ _ q => q))

theorem tup_item0 {value slice : PySem.Expr} {v : Value} {k : List Int} {u : Tok} {Q : Value → Shared → Prop} (ht : TupOk s.heap v k) (hne : k ≠ []) (h : ∀ t, Q (.int (hd0 k) t) s)
    (hs : ∀ a, subscripted slice false (.ref a) (.int 0 u) = operate [.ref a, .int 0 u] (getItem (.ref a) (.int 0 u)) := by intro _; with_unfolding_all rfl) :
    wpAny (model prog w) A (subscriptTail value slice v (.int 0 u)) Q E s := by
  obtain ⟨a, o, n, xs, rfl, e, hc, hd, hi⟩ := ht
  cases hl : xs.toList with
  | nil => rw [hl] at hi; cases hi; exact absurd rfl hne
  | cons y ys =>
    rw [hl] at hi
    cases hi with
    | cons x t hi =>
      have hx : xs = (Value.int x t :: ys).toArray := by rw [← hl]
      refine item_tupleT (l := Value.int x t :: ys) (j := 0) (x := .int x t) ⟨o, e, hc, n, hx ▸ hd⟩ (by decide) (by decide) (by simp [seqIndex?]) rfl (h t) (hs a)
end
end Mine
end

section
open PySem PySem.W PySem.Calls PyProof.Rows
namespace Mine

theorem Res.pre {env : Env} {Y : Addr → Prop} {s s₂ : Shared} {n : Nat} {xs : List Int} {I : Addr} {bs : List (Str × Value)} (K : Kp (Xf env Y s) s s₂) (V : Vs env s₂.heap bs) (hI : Y I ∨ s.heap.get? I = none) (hY : ∀ a, Y a → a = I) (hIl : ∃ o, s₂.heap.get? I = some o) {f : Flow} {s' : Shared}
    (h : Res env (· = I) s₂ n xs f s') : Res env Y s n xs f s' := by
  obtain ⟨D, ws, ys, hf, hD, ls, hi, ht, k⟩ := h
  have fr : ∀ a, s₂.heap.get? a = none → s.heap.get? a = none := fun a e => Xf.none K e (fun q => by
    obtain ⟨o, e'⟩ := hIl
    rw [hY a q, e'] at e; cases e) (own_fresh V e)
  refine ⟨D, ws, ys, hf, fr D hD, ls, hi, ht, Xf.fin (K.trans (k.mono fun a q => ?_))⟩
  rcases q with q | q
  · rw [q]; exact hI.imp id .inr
  · exact .inr (.inl q)

theorem closed_plain (sc : Scope) (env : Env) (h : closureFor sc env = pure []) : closureFor sc env = pure [] := h

section
variable {prog : Program} {w : World} {A : Around} {E : Value → Shared → Prop} {s : Shared} {H : Heap}

/-- nlargest's part behind «it = iter(iterable)», without a key -/
theorem nl_plain2 {L : Addr} {cd : Value} {bs : List (Str × Value)} {vs : List Value} {xs : List Int} {n : Nat} {tn : Tok} {I l : Addr} (G : Gnd H) (F : Fm H (nE L cd) (· = I) s) (V : Vs (nE L cd) s.heap bs) (hb : Has bs [("n", .int n tn), ("it", .ref I)])
    (W : Walk s.heap I l vs) (hi : IntsAre vs xs) (h2 : 2 ≤ vs.length) (h64 : vs.length < 64) (hn2 : 2 ≤ n) (hn : n < 64) (hIO : ¬ Own (nE L cd) I) (hlO : ¬ Own (nE L cd) l) (hh : A.handled = none) (hroom : A.depth + 30 < recursionLimit) (hu : A.units + 400 < cLine) :
    wpAny (model prog w) A (execs ((ifB (nBody 2)).drop 1) (nE L cd)) (Res (nE L cd) (· = I) s n xs) E s := by
  have V := V.weak hb
  have hX : ∀ a, Own (nE L cd) a → Xf (nE L cd) (· = I) s a := fun a q => .inr (.inl q)
  have hxl := hi.length
  refine wpAny_execs_cons (zip_comp (tf := fun x o => [x, o]) (cl := []) (cs := []) G F V rfl rfl W hi h64 hn (by omega) hh hIO hlO rfl rfl trivial trivial rfl rfl (fun _ => rfl) (fun _ => rfl) ?elt ?go)
  case elt =>
    intro C s₂ x i tx ti E' Q' K2 V2 hQ
    refine Tuple_ (spliced_cons (V2.name rfl (spliced_cons (V2.name rfl (spliced_nil (mk_tuple (fun T s₃ hT hT3 k₃ => ?_) (by show 2 ≤ sizeLine; decide +kernel)))))))
    exact hQ _ T s₃ rfl hT ⟨T, _, 0, #[.int x tx, .int i ti], rfl, hT3, rfl, rfl, .cons x tx (.cons i ti .nil)⟩ k₃.un
  intro s₁ D ts ks rest rs V1 T1 hks hlen hsh li1 hr1 hD K1
  dsimp only
  have onX : ∀ {s' : Shared}, Kp (Xf (nE L cd) (· = I) s) s s' → On H s' := fun k => F.of k
  have DH : H.get? D = none := F.on.none hD
  have hDX : Xf (nE L cd) (· = I) s D := .inr (.inr hD)
  have lD : l ≠ D := ne_of_live (let ⟨o, e, _⟩ := W.ol; ⟨o, e⟩) hD
  have ID : I ≠ D := ne_of_live (let ⟨o, e, _⟩ := W.li.obj; ⟨o, e⟩) hD
  have hk2 : 2 ≤ ks.length := by rw [hlen]; exact Nat.le_min.mpr ⟨hn2, by omega⟩
  have hDO : ¬ Own (nE L cd) D := own_fresh V hD
  have hne : ∀ k ∈ ks, k ≠ [] := fun k hk => by obtain ⟨x, o, rfl⟩ := hsh k hk; simp
  have htl := T1.length
  refine wpAny_execs_cons (wpAny_If (wpAny_isTrue_Not (isTrue_plain (V1.name rfl (wpAny_truthy_list T1.ls.isList (by have := T1.len; simp; omega) ?_)))))
  rw [if_neg (by
    cases ts with
    | nil => rw [htl] at hk2; exact absurd hk2 (by simp)
    | cons _ _ => simp)]
  refine wpAny_execs_nil ?_
  dsimp only
  have on1 : On H s₁ := onX K1
  have T1' : TT { s₁ with toks := s₁.toks + 1 + 1 } D ts ks := ⟨T1.ls, T1.tup, T1.ks, T1.len⟩
  refine wpAny_execs_cons (wpAny_Expr_any (call_gl (st := fdef 2) G on1 (x := "heapify") rfl G.heapify (spliced_cons (V1.name rfl (spliced_nil ⟨on1, ?_⟩)))))
  refine heapify_tt G on1 DH hh T1' (by omega) (by omega) fun s₂ ts2 ks2 k₂ T2 hp2 hperm2 => ?_
  dsimp only
  have k12 : Kp (· = D) s₁ s₂ := k₂.un
  have K2 := K1.trans (k12.mono fun a q => by rw [q]; exact hDX)
  have V2 := V1.kp k12 fun a q o => hDO (q ▸ o)
  have li2 : LIt s₂.heap I l rest := LIt.kp k12 ID lD li1
  have htl2 := T2.length
  have hpl := hperm2.length_eq
  have hsh2 : ∀ k ∈ ks2, ∃ x o, k = [x, o] := fun k hk => hsh k (hperm2.mem_iff.mp hk)
  have hne2 : ∀ k ∈ ks2, k ≠ [] := fun k hk => hne k (hperm2.mem_iff.mp hk)
  have J2 : Inv n xs ks2 rs := Inv.start hp2 hperm2 hks hlen hne
  have h0 : 0 < ts2.length := by omega
  have e0 : tkey s₂.heap ts2[0] ∈ ks2 := by rw [← T2.ks]; exact List.mem_map_of_mem (List.getElem_mem _)
  refine wpAny_execs_cons (wpAny_Assign_Name (Subscript_ (Subscript_ (V2.name rfl (wpAny_Constant_int (tail_any T2.ls.typeIs slot_list_getitem.lookup (pl_get (x := ts2[0]) T2.ls (by decide) (by decide) (by simp) (wpAny_Constant_int (tup_item0 (T2.tup _ (List.getElem_mem _)) (hne2 _ e0) fun tt => ?_))) rfl))))))
  refine V2.putL rfl fun s₃ V3 k₃ => ?_
  dsimp only
  have hLl : l ≠ L := fun q => hlO (.inl q)
  have hLI : I ≠ L := fun q => hIO (.inl q)
  have hLD : D ≠ L := fun q => hDO (.inl q)
  have hLX : Xf (nE L cd) (· = I) s L := hX L (.inl rfl)
  have k3 : Kp (· = L) s₂ s₃ := k₃
  refine wpAny_execs_cons (wpAny_Assign_Name (UnaryOp_ (V3.name rfl (neg_int ?_))))
  refine V3.putL rfl fun s₄ V4 k₄ => ?_
  dsimp only
  have k4 : Kp (· = L) s₃ s₄ := k₄
  have K4 := (K2.trans (k3.mono fun a q => by rw [q]; exact hLX)).trans (k4.mono fun a q => by rw [q]; exact hLX)
  refine wpAny_execs_cons (wpAny_Assign_Name (gl_fn G (onX K4) (x := "heapreplace") rfl ?_))
  refine V4.putL rfl fun s₅ V5 k₅ => ?_
  dsimp only
  have k5 : Kp (· = L) s₄ s₅ := k₅
  have k25 : Kp (· = L) s₂ s₅ := (k3.trans k4).trans k5
  have K5 := K2.trans (k25.mono fun a q => by rw [q]; exact hLX)
  have T5 : TT s₅ D ts2 ks2 := T2.kp k25 hLD fun a q o e => (Own.nd V2 a (.inl q) o e).nt
  have li5 : LIt s₅.heap I l rest := LIt.kp k25 hLI hLl li2
  have hr0 : ks2[0]? = some (tkey s₂.heap ts2[0]) := by rw [← T2.ks]; simp [h0]
  refine wpAny_execs_cons (wpAny_For (V5.name rfl (iter_li li5 ?_)))
  refine codeAny_forLoop (fun m s' => ∃ (rest : List Value) (rs : List Int) (ts : List Value) (ks : List (List Int)) (r : List Int) (od : Int) (t1 t2 : Tok), rest.length = m ∧ LIt s'.heap I l rest ∧ IntsAre rest rs ∧ TT s' D ts ks ∧ Inv n xs ks rs ∧ (∀ k ∈ ks, ∃ x o, k = [x, o]) ∧ ks[0]? = some r ∧
    Vs (nE L cd) s'.heap [("result", .ref D), ("top", .int (hd0 r) t1), ("order", .int od t2), ("_heapreplace", .ref 21), ("it", .ref I)] ∧ Kp (Xf (nE L cd) (· = I) s) s s') ?turn rest.length
    ⟨rest, rs, ts2, ks2, _, _, _, _, rfl, li5, hr1, T5, J2, hsh2, hr0, V5.weak ⟨rfl, rfl, rfl, rfl, rfl, trivial⟩, K5⟩
  rintro m s' ⟨rest, rs, ts, ks, r, od, t1, t2, hm, li, hr, T, J, hsh, hr0, V, K⟩
  have nI : ∀ a, a = I → ∀ o, s'.heap.get? a = some o → NT o := fun a q o e => by
    obtain ⟨o', xs', e', d⟩ := li.fields
    rw [q, e'] at e; cases e; exact NT.fields d
  cases hr with
  | nil =>
    refine next_end hh li fun s₆ li6 k6 => ?_
    dsimp only
    refine wpAny_execs_nil ?_
    dsimp only
    have K6 := K.trans (k6.mono fun a q => .inl q)
    have V6 := V.kp k6 fun a q o => hIO (q ▸ o)
    have T6 : TT s₆ D ts ks := T.kp k6 ID.symm nI
    have hkl : 2 ≤ ts.length := by rw [← T6.length, J.len]; exact Nat.le_min.mpr ⟨hn2, by omega⟩
    obtain ⟨oD, nD, eD, cD, dD, _⟩ := id T6.ls
    refine wpAny_execs_cons (wpAny_Expr_any (methodCall_KW (V6.name rfl (getMethod_list_sort eD cD dD (callWith_builtin_kwB rfl rfl (evalArgs_kw2_nil rfl (kws_cons (wpAny_Constant_bool (kws_nil ?_)))))))))
    show wpAny _ _ (call (.builtin "list.sort") [.ref D] [(Str.ofString "reverse", .bool true)]) _ _ _
    refine sort_tt T6 J.ne hkl fun s₇ ts7 ks7 k7 T7 p7 d7 => ?_
    dsimp only
    have K7 := K6.trans (k7.mono fun a q => by rw [q]; exact hDX)
    have V7 := V6.kp k7 fun a q o => hDO (q ▸ o)
    refine wpAny_execs_cons (wpAny_Return_some (last_comp (tf := fun x o => [x, o]) V7 rfl T7 (fun k hk => hsh k (p7.mem_iff.mp hk)) hh rfl (fun _ => rfl) ?asg fun s₈ R ws hR ls8 hi8 k8 => ?_))
    case asg =>
      intro C s₂ T x o E' Q' ht Vc hQ
      obtain ⟨a, ob, nb, xs', e1, e2, hc, hd, hia⟩ := ht
      cases e1
      cases hl : xs'.toList with
      | nil => rw [hl] at hia; cases hia
      | cons y ys =>
        rw [hl] at hia
        cases hia with
        | cons _ tx hia =>
          cases hia with
          | cons _ to hia =>
            cases hia
            have hx' : xs' = #[.int x tx, .int o to] := Array.toList_inj.mp (by rw [hl])
            subst hx'
            refine unpack hh ⟨ob, e2, hc, nb, hd⟩ fun s₃ k3 => ?_
            refine wpAny_assignInOrder_more (wpAny_assign_Name ((Vc.kp k3 fun _ q => q.elim).putL rfl fun s₄ V4 k4 => ?_))
            refine wpAny_assignInOrder_more (wpAny_assign_Name (V4.putL rfl fun s₅ V5 k5 => ?_))
            exact wpAny_assignInOrder_none (hQ s₅ tx (V5.weak ⟨rfl, trivial⟩) (((k3.mono fun _ q => q.elim).trans k4).trans k5))
    refine ⟨R, ws, _, rfl, ?_, ls8, hi8, J.final p7 d7, Xf.fin (K7.trans (k8.mono fun _ q => q.elim))⟩
    refine Xf.none K7 hR (fun q => ?_) (own_fresh V7 hR)
    obtain ⟨oI, eI, _⟩ := li6.obj
    rw [q, k7.keep _ _ ID eI] at hR
    cases hR
  | @cons x tx vr rs hr =>
    refine next_item li fun s₆ li6 k6 => ?_
    dsimp only
    have K6 := K.trans (k6.mono fun a q => .inl q)
    have V6 := V.kp k6 fun a q o => hIO (q ▸ o)
    have T6 : TT s₆ D ts ks := T.kp k6 ID.symm nI
    refine wpAny_assign_Name (V6.putL rfl fun s₇ V7 k7 => ?_)
    have k7 : Kp (· = L) s₆ s₇ := k7
    have K7 := K6.trans (k7.mono fun a q => by rw [q]; exact hLX)
    have T7 : TT s₇ D ts ks := T6.kp k7 hLD fun a q o e => (Own.nd V6 a (.inl q) o e).nt
    have li7 : LIt s₇.heap I l vr := LIt.kp k7 hLI hLl li6
    have hkl : 2 ≤ ts.length := by rw [← T7.length, J.len]; exact Nat.le_min.mpr ⟨hn2, by omega⟩
    refine wpAny_execs_cons (wpAny_If (wpAny_isTrue_Compare1 (V7.name rfl (V7.name rfl (lt_int (wpAny_truthy_bool ?_))))))
    by_cases hlt : hd0 r < x
    · rw [if_pos (by simpa using hlt)]
      have on7 : On H s₇ := onX K7
      refine wpAny_execs_cons (wpAny_Expr_any (call_loc (st := fdef 1) V7 rfl G.heapreplace (spliced_cons (V7.name rfl (spliced_cons (Tuple_ (k := 0) (spliced_cons (V7.name rfl (spliced_cons (V7.name rfl (spliced_nil (mk_tuple (fun U s₈ hU hU8 k8 => ?_) (by show 2 ≤ sizeLine; decide +kernel)))))))))))))
      have k8 : Kp Nil s₇ s₈ := k8.un
      have K8 := K7.trans (k8.mono fun _ q => q.elim)
      have T8 : TT s₈ D ts ks := T7.kp k8 (fun q => q) fun _ q => q.elim
      have V8 := V7.kp k8 fun _ q => q.elim
      have hUt : TupOk s₈.heap (.ref U) [x, od] := ⟨U, _, 0, #[.int x tx, .int od t2], rfl, hU8, rfl, rfl, .cons x tx (.cons od t2 .nil)⟩
      refine spliced_nil ⟨onX K8, heapreplace_tt G (onX K8) DH T8 hUt (by omega) J.hp (by omega) (by omega) fun s₉ ts9 ks9 r9 k9 T9 hp9 p9 => ?_⟩
      dsimp only
      have K9 := K8.trans (k9.mono fun a q => by rw [q]; exact hDX)
      have V9 := V8.kp k9 fun a q o => hDO (q ▸ o)
      have J9 : Inv n xs ks9 rs := J.replace hr0 hlt rfl (by simp) hp9 p9
      have li9 : LIt s₉.heap I l vr := LIt.kp k9 ID lD (LIt.kp k8 (fun q => q) (fun q => q) li7)
      have hl9 : 2 ≤ ts9.length := by rw [← T9.length, J9.len]; exact Nat.le_min.mpr ⟨hn2, by omega⟩
      have hsh9 : ∀ k ∈ ks9, ∃ x o, k = [x, o] := fun k hk => by
        rcases List.mem_or_eq_of_mem_set (p9.mem_iff.mp hk) with q | q
        · exact hsh k q
        · exact ⟨x, od, q⟩
      have h09 : 0 < ts9.length := by omega
      have hr9 : ks9[0]? = some (tkey s₉.heap ts9[0]) := by rw [← T9.ks]; simp [h09]
      obtain ⟨y, o, hyo⟩ := hsh9 _ (List.mem_of_getElem? hr9)
      refine wpAny_execs_cons (Assign_Tuple (Subscript_ (V9.name rfl (wpAny_Constant_int (tail_any T9.ls.typeIs slot_list_getitem.lookup (pl_get (x := ts9[0]) T9.ls (by decide) (by decide) (by simp) ?_) rfl)))))
      obtain ⟨a, ob, nb, xs', e1, e2, hc, hd, hia⟩ := T9.tup _ (List.getElem_mem h09)
      rw [e1] at hyo hr9 hia ⊢
      rw [hyo] at hia
      cases hl : xs'.toList with
      | nil => rw [hl] at hia; cases hia
      | cons y' ys =>
        rw [hl] at hia
        cases hia with
        | cons _ ty hia =>
          cases hia with
          | cons _ to hia =>
            cases hia
            have hx' : xs' = #[.int y ty, .int o to] := Array.toList_inj.mp (by rw [hl])
            subst hx'
            refine unpack hh ⟨ob, e2, hc, nb, hd⟩ fun s10 k10 => ?_
            have k10 : Kp Nil s₉ s10 := k10.un
            refine wpAny_assignInOrder_more (wpAny_assign_Name ((V9.kp k10 fun _ q => q.elim).putL rfl fun s11 V11 k11 => ?_))
            refine wpAny_assignInOrder_more (wpAny_assign_Name (V11.putL rfl fun s12 V12 k12 => ?_))
            refine wpAny_assignInOrder_none ?_
            dsimp only
            refine wpAny_execs_cons (wpAny_AugAssign_Name (V12.load rfl (wpAny_Constant_int (isub_int ?_))))
            refine V12.putL rfl fun s13 V13 k13 => ?_
            dsimp only
            have k913 : Kp (· = L) s₉ s13 := (((k10.mono (fun _ q => q.elim)).trans k11).trans k12).trans k13
            have K13 := K9.trans (k913.mono fun a q => by rw [q]; exact hLX)
            have T13 : TT s13 D ts9 ks9 := T9.kp k913 hLD fun a q o e => (Own.nd V9 a (.inl q) o e).nt
            refine wpAny_execs_nil (wpAny_execs_nil ⟨vr.length, by simp at hm; omega, vr, rs, ts9, ks9, [y, o], _, _, _, rfl, LIt.kp k913 hLI hLl li9, hr, T13, J9, hsh9, by rw [hr9, hyo], V13.weak ⟨rfl, rfl, rfl, rfl, rfl, trivial⟩, K13⟩)
    · rw [if_neg (by simpa using hlt)]
      refine wpAny_execs_nil (wpAny_execs_nil ⟨vr.length, by simp at hm; omega, vr, rs, ts, ks, r, od, t1, t2, rfl, li7, hr, T7, J.keep hr0 hlt, hsh, hr0, V7.weak ⟨rfl, rfl, rfl, rfl, rfl, trivial⟩, K7⟩)
end
end Mine
end

section
open PySem PySem.W PySem.Calls PyProof.Rows
namespace Mine

section
variable {prog : Program} {w : World} {A : Around} {E : Value → Shared → Prop} {s : Shared} {H : Heap}

/-- key(x) -/
theorem call_key {env : Env} {x : Str} {p px pos : Pos} {bs : List (Str × Value)} {kv v : Value} {Q : Value → Shared → Prop} (V : Vs env s.heap bs) (hv : bs.lookup ("key" : Str) = some kv) (hx : bs.lookup x = some v) (kf : IdFn s.heap kv) (hl : s.heap.NoLimit) (hroom : A.depth < recursionLimit)
    (h : ∀ s', Kp Nil s s' → Q v s')
    (hk : isVar (env.kindOf "key") = true := by rfl) (hkx : isVar (env.kindOf x) = true := by rfl) (hf : env.scope.kind = .function := by rfl) (hn : (x == ("__classdict__" : Str)) = false := by decide) (hd : (x == ("__debug__" : Str)) = false := by decide) :
    wpAny (model prog w) A (eval (.Call (.Name "key" p) [.Name x px] [] pos) env) Q E s := by
  have kf' := kf
  obtain ⟨a, o, fd, p1, p2, c, rfl, e, d, _⟩ := kf'
  refine wpAny_Call_NameR (V.name hv ?_ rfl hk hf (by decide) (by decide))
  exact callWith_function (o := o) (fd := fd) (evalArgs_plain (spliced_cons (V.name hx (spliced_nil ⟨⟨e, d⟩, lam_call kf hl hroom h⟩) rfl hkx hf hn hd)))

/-- nlargest's part behind «it = iter(iterable)», with a key -/
theorem nl_key2 {L : Addr} {cd : Value} {bs : List (Str × Value)} {vs : List Value} {xs : List Int} {n : Nat} {tn : Tok} {I l : Addr} {kv : Value} (G : Gnd H) (F : Fm H (nE L cd) (· = I) s) (V : Vs (nE L cd) s.heap bs) (hb : Has bs [("n", .int n tn), ("it", .ref I), ("key", kv)]) (kf : IdFn s.heap kv)
    (W : Walk s.heap I l vs) (hi : IntsAre vs xs) (h2 : 2 ≤ vs.length) (h64 : vs.length < 64) (hn2 : 2 ≤ n) (hn : n < 64) (hIO : ¬ Own (nE L cd) I) (hlO : ¬ Own (nE L cd) l) (hh : A.handled = none) (hroom : A.depth + 30 < recursionLimit) (hu : A.units + 400 < cLine) :
    wpAny (model prog w) A (execs ((sBody (fdef 5)).drop 4) (nE L cd)) (Res (nE L cd) (· = I) s n xs) E s := by
  have V := V.weak hb
  have hX : ∀ a, Own (nE L cd) a → Xf (nE L cd) (· = I) s a := fun a q => .inr (.inl q)
  have hxl := hi.length
  have kX : ∀ {s' : Shared}, Kp (Xf (nE L cd) (· = I) s) s s' → IdFn s'.heap kv := fun k => kf.kp k fun a q o e => by
    rcases q with q | q | q
    · exact NotFn.li W.li (q ▸ e)
    · exact (Own.nd V a q o e).notfn
    · rw [q] at e; cases e
  refine wpAny_execs_cons (zip_comp (tf := fun x o => [x, o, x]) (cl := [("key", L + 1)]) (cs := [("key", kv)]) G F V rfl rfl W hi h64 hn (by omega) hh hIO hlO rfl rfl ⟨rfl, trivial⟩ ⟨⟨rfl, rfl, rfl, rfl, rfl⟩, trivial⟩ rfl rfl (fun _ => rfl) (fun _ => rfl) ?elt ?go)
  case elt =>
    intro C s₂ x i tx ti E' Q' K2 V2 hQ
    refine Tuple_ (spliced_cons (call_key V2 rfl rfl (kX K2) (NoLimit.on (F.of K2) G.nolim) (by omega) fun s₃ k₃ => spliced_cons ?_))
    have V3 := V2.kp k₃ fun _ q => q.elim
    refine V3.name rfl (spliced_cons (V3.name rfl (spliced_nil (mk_tuple (fun T s₄ hT hT4 k₄ => ?_) (by show 3 ≤ sizeLine; decide +kernel)))))
    exact hQ _ T s₄ rfl (k₃.none (fun q => q) hT) ⟨T, _, 0, #[.int x tx, .int i ti, .int x tx], rfl, hT4, rfl, rfl, .cons x tx (.cons i ti (.cons x tx .nil))⟩ (k₃.trans k₄.un)
  intro s₁ D ts ks rest rs V1 T1 hks hlen hsh li1 hr1 hD K1
  dsimp only
  have onX : ∀ {s' : Shared}, Kp (Xf (nE L cd) (· = I) s) s s' → On H s' := fun k => F.of k
  have DH : H.get? D = none := F.on.none hD
  have hDX : Xf (nE L cd) (· = I) s D := .inr (.inr hD)
  have lD : l ≠ D := ne_of_live (let ⟨o, e, _⟩ := W.ol; ⟨o, e⟩) hD
  have ID : I ≠ D := ne_of_live (let ⟨o, e, _⟩ := W.li.obj; ⟨o, e⟩) hD
  have hk2 : 2 ≤ ks.length := by rw [hlen]; exact Nat.le_min.mpr ⟨hn2, by omega⟩
  have hDO : ¬ Own (nE L cd) D := own_fresh V hD
  have hne : ∀ k ∈ ks, k ≠ [] := fun k hk => by obtain ⟨x, o, rfl⟩ := hsh k hk; simp
  have htl := T1.length
  refine wpAny_execs_cons (wpAny_If (wpAny_isTrue_Not (isTrue_plain (V1.name rfl (wpAny_truthy_list T1.ls.isList (by have := T1.len; simp; omega) ?_)))))
  rw [if_neg (by
    cases ts with
    | nil => rw [htl] at hk2; exact absurd hk2 (by simp)
    | cons _ _ => simp)]
  refine wpAny_execs_nil ?_
  dsimp only
  have on1 : On H s₁ := onX K1
  have T1' : TT { s₁ with toks := s₁.toks + 1 + 1 } D ts ks := ⟨T1.ls, T1.tup, T1.ks, T1.len⟩
  refine wpAny_execs_cons (wpAny_Expr_any (call_gl (st := fdef 2) G on1 (x := "heapify") rfl G.heapify (spliced_cons (V1.name rfl (spliced_nil ⟨on1, ?_⟩)))))
  refine heapify_tt G on1 DH hh T1' (by omega) (by omega) fun s₂ ts2 ks2 k₂ T2 hp2 hperm2 => ?_
  dsimp only
  have k12 : Kp (· = D) s₁ s₂ := k₂.un
  have K2 := K1.trans (k12.mono fun a q => by rw [q]; exact hDX)
  have V2 := V1.kp k12 fun a q o => hDO (q ▸ o)
  have li2 : LIt s₂.heap I l rest := LIt.kp k12 ID lD li1
  have htl2 := T2.length
  have hpl := hperm2.length_eq
  have hsh2 : ∀ k ∈ ks2, ∃ x o, k = [x, o, x] := fun k hk => hsh k (hperm2.mem_iff.mp hk)
  have hne2 : ∀ k ∈ ks2, k ≠ [] := fun k hk => hne k (hperm2.mem_iff.mp hk)
  have J2 : Inv n xs ks2 rs := Inv.start hp2 hperm2 hks hlen hne
  have h0 : 0 < ts2.length := by omega
  have e0 : tkey s₂.heap ts2[0] ∈ ks2 := by rw [← T2.ks]; exact List.mem_map_of_mem (List.getElem_mem _)
  refine wpAny_execs_cons (wpAny_Assign_Name (Subscript_ (Subscript_ (V2.name rfl (wpAny_Constant_int (tail_any T2.ls.typeIs slot_list_getitem.lookup (pl_get (x := ts2[0]) T2.ls (by decide) (by decide) (by simp) (wpAny_Constant_int (tup_item0 (T2.tup _ (List.getElem_mem _)) (hne2 _ e0) fun tt => ?_))) rfl))))))
  refine V2.putL rfl fun s₃ V3 k₃ => ?_
  dsimp only
  have hLl : l ≠ L := fun q => hlO (.inl q)
  have hLI : I ≠ L := fun q => hIO (.inl q)
  have hLD : D ≠ L := fun q => hDO (.inl q)
  have hLX : Xf (nE L cd) (· = I) s L := hX L (.inl rfl)
  have k3 : Kp (· = L) s₂ s₃ := k₃
  refine wpAny_execs_cons (wpAny_Assign_Name (UnaryOp_ (V3.name rfl (neg_int ?_))))
  refine V3.putL rfl fun s₄ V4 k₄ => ?_
  dsimp only
  have k4 : Kp (· = L) s₃ s₄ := k₄
  have K4 := (K2.trans (k3.mono fun a q => by rw [q]; exact hLX)).trans (k4.mono fun a q => by rw [q]; exact hLX)
  refine wpAny_execs_cons (wpAny_Assign_Name (gl_fn G (onX K4) (x := "heapreplace") rfl ?_))
  refine V4.putL rfl fun s₅ V5 k₅ => ?_
  dsimp only
  have k5 : Kp (· = L) s₄ s₅ := k₅
  have k25 : Kp (· = L) s₂ s₅ := (k3.trans k4).trans k5
  have K5 := K2.trans (k25.mono fun a q => by rw [q]; exact hLX)
  have T5 : TT s₅ D ts2 ks2 := T2.kp k25 hLD fun a q o e => (Own.nd V2 a (.inl q) o e).nt
  have li5 : LIt s₅.heap I l rest := LIt.kp k25 hLI hLl li2
  have hr0 : ks2[0]? = some (tkey s₂.heap ts2[0]) := by rw [← T2.ks]; simp [h0]
  refine wpAny_execs_cons (wpAny_For (V5.name rfl (iter_li li5 ?_)))
  refine codeAny_forLoop (fun m s' => ∃ (rest : List Value) (rs : List Int) (ts : List Value) (ks : List (List Int)) (r : List Int) (od : Int) (t1 t2 : Tok), rest.length = m ∧ LIt s'.heap I l rest ∧ IntsAre rest rs ∧ TT s' D ts ks ∧ Inv n xs ks rs ∧ (∀ k ∈ ks, ∃ x o, k = [x, o, x]) ∧ ks[0]? = some r ∧
    Vs (nE L cd) s'.heap [("result", .ref D), ("top", .int (hd0 r) t1), ("order", .int od t2), ("_heapreplace", .ref 21), ("it", .ref I), ("key", kv)] ∧ Kp (Xf (nE L cd) (· = I) s) s s') ?turn rest.length
    ⟨rest, rs, ts2, ks2, _, _, _, _, rfl, li5, hr1, T5, J2, hsh2, hr0, V5.weak ⟨rfl, rfl, rfl, rfl, rfl, rfl, trivial⟩, K5⟩
  rintro m s' ⟨rest, rs, ts, ks, r, od, t1, t2, hm, li, hr, T, J, hsh, hr0, V, K⟩
  have nI : ∀ a, a = I → ∀ o, s'.heap.get? a = some o → NT o := fun a q o e => by
    obtain ⟨o', xs', e', d⟩ := li.fields
    rw [q, e'] at e; cases e; exact NT.fields d
  cases hr with
  | nil =>
    refine next_end hh li fun s₆ li6 k6 => ?_
    dsimp only
    refine wpAny_execs_nil ?_
    dsimp only
    have K6 := K.trans (k6.mono fun a q => .inl q)
    have V6 := V.kp k6 fun a q o => hIO (q ▸ o)
    have T6 : TT s₆ D ts ks := T.kp k6 ID.symm nI
    have hkl : 2 ≤ ts.length := by rw [← T6.length, J.len]; exact Nat.le_min.mpr ⟨hn2, by omega⟩
    obtain ⟨oD, nD, eD, cD, dD, _⟩ := id T6.ls
    refine wpAny_execs_cons (wpAny_Expr_any (methodCall_KW (V6.name rfl (getMethod_list_sort eD cD dD (callWith_builtin_kwB rfl rfl (evalArgs_kw2_nil rfl (kws_cons (wpAny_Constant_bool (kws_nil ?_)))))))))
    show wpAny _ _ (call (.builtin "list.sort") [.ref D] [(Str.ofString "reverse", .bool true)]) _ _ _
    refine sort_tt T6 J.ne hkl fun s₇ ts7 ks7 k7 T7 p7 d7 => ?_
    dsimp only
    have K7 := K6.trans (k7.mono fun a q => by rw [q]; exact hDX)
    have V7 := V6.kp k7 fun a q o => hDO (q ▸ o)
    refine wpAny_execs_cons (wpAny_Return_some (last_comp (tf := fun x o => [x, o, x]) V7 rfl T7 (fun k hk => hsh k (p7.mem_iff.mp hk)) hh rfl (fun _ => rfl) ?asg fun s₈ R ws hR ls8 hi8 k8 => ?_))
    case asg =>
      intro C s₂ T x o E' Q' ht Vc hQ
      obtain ⟨a, ob, nb, xs', e1, e2, hc, hd, hia⟩ := ht
      cases e1
      cases hl : xs'.toList with
      | nil => rw [hl] at hia; cases hia
      | cons y ys =>
        rw [hl] at hia
        cases hia with
        | cons _ tx hia =>
          cases hia with
          | cons _ to hia =>
            cases hia with
            | cons _ tz hia =>
              cases hia
              have hx' : xs' = #[.int x tx, .int o to, .int x tz] := Array.toList_inj.mp (by rw [hl])
              subst hx'
              refine unpack hh ⟨ob, e2, hc, nb, hd⟩ fun s₃ k3 => ?_
              refine wpAny_assignInOrder_more (wpAny_assign_Name ((Vc.kp k3 fun _ q => q.elim).putL rfl fun s₄ V4 k4 => ?_))
              refine wpAny_assignInOrder_more (wpAny_assign_Name (V4.putL rfl fun s₅ V5 k5 => ?_))
              refine wpAny_assignInOrder_more (wpAny_assign_Name (V5.putL rfl fun s₆ V6 k6 => ?_))
              exact wpAny_assignInOrder_none (hQ s₆ tz (V6.weak ⟨rfl, trivial⟩) ((((k3.mono fun _ q => q.elim).trans k4).trans k5).trans k6))
    refine ⟨R, ws, _, rfl, ?_, ls8, hi8, J.final p7 d7, Xf.fin (K7.trans (k8.mono fun _ q => q.elim))⟩
    refine Xf.none K7 hR (fun q => ?_) (own_fresh V7 hR)
    obtain ⟨oI, eI, _⟩ := li6.obj
    rw [q, k7.keep _ _ ID eI] at hR
    cases hR
  | @cons x tx vr rs hr =>
    refine next_item li fun s₆ li6 k6 => ?_
    dsimp only
    have K6 := K.trans (k6.mono fun a q => .inl q)
    have V6 := V.kp k6 fun a q o => hIO (q ▸ o)
    have T6 : TT s₆ D ts ks := T.kp k6 ID.symm nI
    refine wpAny_assign_Name (V6.putL rfl fun s₆' V6' k6' => ?_)
    have k6' : Kp (· = L) s₆ s₆' := k6'
    have K6' := K6.trans (k6'.mono fun a q => by rw [q]; exact hLX)
    refine wpAny_execs_cons (wpAny_Assign_Name (call_key V6' rfl rfl (kX K6') (NoLimit.on (onX K6') G.nolim) (by omega) fun s₆b k6b => ?_))
    refine (V6'.kp k6b fun _ q => q.elim).putL rfl fun s₇ V7 k7 => ?_
    dsimp only
    have k7 : Kp (· = L) s₆ s₇ := (k6'.trans (k6b.mono fun _ q => q.elim)).trans k7
    have K7 := K6.trans (k7.mono fun a q => by rw [q]; exact hLX)
    have T7 : TT s₇ D ts ks := T6.kp k7 hLD fun a q o e => (Own.nd V6 a (.inl q) o e).nt
    have li7 : LIt s₇.heap I l vr := LIt.kp k7 hLI hLl li6
    have hkl : 2 ≤ ts.length := by rw [← T7.length, J.len]; exact Nat.le_min.mpr ⟨hn2, by omega⟩
    refine wpAny_execs_cons (wpAny_If (wpAny_isTrue_Compare1 (V7.name rfl (V7.name rfl (lt_int (wpAny_truthy_bool ?_))))))
    by_cases hlt : hd0 r < x
    · rw [if_pos (by simpa using hlt)]
      have on7 : On H s₇ := onX K7
      refine wpAny_execs_cons (wpAny_Expr_any (call_loc (st := fdef 1) V7 rfl G.heapreplace (spliced_cons (V7.name rfl (spliced_cons (Tuple_ (k := 0) (spliced_cons (V7.name rfl (spliced_cons (V7.name rfl (spliced_cons (V7.name rfl (spliced_nil (mk_tuple (fun U s₈ hU hU8 k8 => ?_) (by show 3 ≤ sizeLine; decide +kernel)))))))))))))))
      have k8 : Kp Nil s₇ s₈ := k8.un
      have K8 := K7.trans (k8.mono fun _ q => q.elim)
      have T8 : TT s₈ D ts ks := T7.kp k8 (fun q => q) fun _ q => q.elim
      have V8 := V7.kp k8 fun _ q => q.elim
      have hUt : TupOk s₈.heap (.ref U) [x, od, x] := ⟨U, _, 0, #[.int x tx, .int od t2, .int x tx], rfl, hU8, rfl, rfl, .cons x tx (.cons od t2 (.cons x tx .nil))⟩
      refine spliced_nil ⟨onX K8, heapreplace_tt G (onX K8) DH T8 hUt (by omega) J.hp (by omega) (by omega) fun s₉ ts9 ks9 r9 k9 T9 hp9 p9 => ?_⟩
      dsimp only
      have K9 := K8.trans (k9.mono fun a q => by rw [q]; exact hDX)
      have V9 := V8.kp k9 fun a q o => hDO (q ▸ o)
      have J9 : Inv n xs ks9 rs := J.replace hr0 hlt rfl (by simp) hp9 p9
      have li9 : LIt s₉.heap I l vr := LIt.kp k9 ID lD (LIt.kp k8 (fun q => q) (fun q => q) li7)
      have hl9 : 2 ≤ ts9.length := by rw [← T9.length, J9.len]; exact Nat.le_min.mpr ⟨hn2, by omega⟩
      have hsh9 : ∀ k ∈ ks9, ∃ x o, k = [x, o, x] := fun k hk => by
        rcases List.mem_or_eq_of_mem_set (p9.mem_iff.mp hk) with q | q
        · exact hsh k q
        · exact ⟨x, od, q⟩
      have h09 : 0 < ts9.length := by omega
      have hr9 : ks9[0]? = some (tkey s₉.heap ts9[0]) := by rw [← T9.ks]; simp [h09]
      obtain ⟨y, o, hyo⟩ := hsh9 _ (List.mem_of_getElem? hr9)
      refine wpAny_execs_cons (Assign_Tuple (Subscript_ (V9.name rfl (wpAny_Constant_int (tail_any T9.ls.typeIs slot_list_getitem.lookup (pl_get (x := ts9[0]) T9.ls (by decide) (by decide) (by simp) ?_) rfl)))))
      obtain ⟨a, ob, nb, xs', e1, e2, hc, hd, hia⟩ := T9.tup _ (List.getElem_mem h09)
      rw [e1] at hyo hr9 hia ⊢
      rw [hyo] at hia
      cases hl : xs'.toList with
      | nil => rw [hl] at hia; cases hia
      | cons y' ys =>
        rw [hl] at hia
        cases hia with
        | cons _ ty hia =>
          cases hia with
          | cons _ to hia =>
           cases hia with
           | cons _ tz hia =>
            cases hia
            have hx' : xs' = #[.int y ty, .int o to, .int y tz] := Array.toList_inj.mp (by rw [hl])
            subst hx'
            refine unpack hh ⟨ob, e2, hc, nb, hd⟩ fun s10 k10 => ?_
            have k10 : Kp Nil s₉ s10 := k10.un
            refine wpAny_assignInOrder_more (wpAny_assign_Name ((V9.kp k10 fun _ q => q.elim).putL rfl fun s11 V11 k11 => ?_))
            refine wpAny_assignInOrder_more (wpAny_assign_Name (V11.putL rfl fun s11b V11b k11b => ?_))
            refine wpAny_assignInOrder_more (wpAny_assign_Name (V11b.putL rfl fun s12 V12 k12 => ?_))
            refine wpAny_assignInOrder_none ?_
            dsimp only
            refine wpAny_execs_cons (wpAny_AugAssign_Name (V12.load rfl (wpAny_Constant_int (isub_int ?_))))
            refine V12.putL rfl fun s13 V13 k13 => ?_
            dsimp only
            have k913 : Kp (· = L) s₉ s13 := ((((k10.mono (fun _ q => q.elim)).trans k11).trans k11b).trans k12).trans k13
            have K13 := K9.trans (k913.mono fun a q => by rw [q]; exact hLX)
            have T13 : TT s13 D ts9 ks9 := T9.kp k913 hLD fun a q o e => (Own.nd V9 a (.inl q) o e).nt
            refine wpAny_execs_nil (wpAny_execs_nil ⟨vr.length, by simp at hm; omega, vr, rs, ts9, ks9, [y, o, y], _, _, _, rfl, LIt.kp k913 hLI hLl li9, hr, T13, J9, hsh9, by rw [hr9, hyo], V13.weak ⟨rfl, rfl, rfl, rfl, rfl, rfl, trivial⟩, K13⟩)
    · rw [if_neg (by simpa using hlt)]
      refine wpAny_execs_nil (wpAny_execs_nil ⟨vr.length, by simp at hm; omega, vr, rs, ts, ks, r, od, t1, t2, rfl, li7, hr, T7, J.keep hr0 hlt, hsh, hr0, V7.weak ⟨rfl, rfl, rfl, rfl, rfl, rfl, trivial⟩, K7⟩)
end
end Mine
end

section
open PySem PySem.W PySem.Calls PyProof.Rows
namespace Mine

theorem ints_all {ys : List Value} (h : ∀ v ∈ ys, ∃ x t, v = Value.int x t) : IntsAre ys (ys.map numOf) := by
  induction ys with
  | nil => exact .nil
  | cons v ys ih =>
    obtain ⟨x, t, rfl⟩ := h v (.head _)
    exact .cons x t (ih fun u hu => h u (.tail _ hu))

theorem isTop_sorted {n : Nat} {vs ys : List Value} {xs : List Int} (hi : IntsAre vs xs) (so : Sorted ilt vs ys) (hn : xs.length ≤ n) : IsTop n xs (ys.map numOf) where
  desc := by
    rw [List.pairwise_map]
    refine so.desc.imp ?_
    intro a b h
    unfold ilt at h
    simpa using h
  len := by rw [List.length_map, so.perm.length_eq, hi.length]; omega
  rest := ⟨[], by rw [List.append_nil, ← hi.nums]; exact so.perm.map _, fun _ _ _ q => nomatch q⟩

section
variable {prog : Program} {w : World} {A : Around} {E : Value → Shared → Prop} {s : Shared} {H : Heap}

theorem execs_ret {env : Env} {st : Stmt} {rest : List Stmt} {Q : Flow → Shared → Prop} (h : wpAny (model prog w) A (exec st env) (fun f s' => (∃ v, f = .ret v) ∧ Q f s') E s) : wpAny (model prog w) A (execs (st :: rest) env) Q E s :=
  wpAny_execs_cons (wpAny_mono h (fun f s' h' => by obtain ⟨⟨v, rfl⟩, h'⟩ := h'; exact h') fun _ _ q => q)

/-- nlargest from «if key is None» on -/
theorem nl_tail {L : Addr} {cd v kv : Value} {Y : Addr → Prop} {bs : List (Str × Value)} {vs : List Value} {xs : List Int} {n : Nat} {tn : Tok} (G : Gnd H) (F : Fm H (nE L cd) Y s) (V : Vs (nE L cd) s.heap bs) (hb : Has bs [("n", .int n tn), ("iterable", v), ("key", kv)])
    (src : Src s.heap v vs Y) (hi : IntsAre vs xs) (h2 : 2 ≤ vs.length) (h64 : vs.length < 64) (hn2 : 2 ≤ n) (hn : n < 64) (kf : KeyFn s.heap kv) (hh : A.handled = none) (hroom : A.depth + 30 < recursionLimit) (hu : A.units + 400 < cLine) :
    wpAny (model prog w) A (execs ((sBody (fdef 5)).drop 2) (nE L cd)) (Res (nE L cd) Y s n xs) E s := by
  have V := V.weak hb
  have hX : ∀ a, Own (nE L cd) a → Xf (nE L cd) Y s a := fun a q => .inr (.inl q)
  -- it = iter(iterable), whichever way
  have step : ∀ {Q : Flow → Shared → Prop} {rest : List Stmt} {p1 p2 p3 p4 p5 : Pos},
      (∀ I l s₂, Fm H (nE L cd) (· = I) s₂ → Vs (nE L cd) s₂.heap [("it", .ref I), ("n", .int n tn), ("iterable", v), ("key", kv)] → Walk s₂.heap I l vs → ¬ Own (nE L cd) I → ¬ Own (nE L cd) l → KeyFn s₂.heap kv → (∀ f s', Res (nE L cd) (· = I) s₂ n xs f s' → Res (nE L cd) Y s n xs f s') → wpAny (model prog w) A (execs rest (nE L cd)) Q E s₂) →
      wpAny (model prog w) A (execs (.Assign [.Name "it" p1] (.Call (.Name "iter" p2) [.Name "iterable" p3] [] p4) p5 :: rest) (nE L cd)) Q E s := by
    intro Q rest p1 p2 p3 p4 p5 h
    refine wpAny_execs_cons (wpAny_Assign_Name (call_one G F.on (x := "iter") (by decide) boot_iter (V.name rfl (call_iter src fun I l s₁ W hI hYI hl k₁ => ?_))))
    have K1 : Kp (Xf (nE L cd) Y s) s s₁ := k₁.mono fun _ q => q.elim
    have V1 := V.kp k₁ fun _ q => q.elim
    have hIO : ¬ Own (nE L cd) I := own_li V1 W.li
    have hlO : ¬ Own (nE L cd) l := fun q => by
      rcases W.li with ⟨items, i, _, hl', _⟩ | ⟨q', _⟩
      · exact own_list V1 hl' q
      · rw [q'] at h2; simp at h2
    refine V1.put K1 hX fun s₂ V2 K2 k₂ => ?_
    dsimp only
    have W2 := W.kp k₂ hIO hlO
    have f2 : KeyFn s₂.heap kv := (kf.kp k₁ fun _ q => q.elim).kp k₂ fun a q o e => (Own.nd V1 a q o e).notfn
    have F2 : Fm H (nE L cd) (· = I) s₂ := ⟨F.of K2, F.ownH, fun a q => by
      rw [q]
      rcases hI with q | q
      · exact F.yH I q
      · exact F.on.none q⟩
    exact h I l s₂ F2 V2 W2 hIO hlO f2 fun f s' hr => Res.pre K2 V2 hI hYI (let ⟨o, e, _⟩ := W2.li.obj; ⟨o, e⟩) hr
  rcases id kf with rfl | kf'
  · refine execs_ret (wpAny_If (wpAny_isTrue_Compare1 (V.name rfl (wpAny_Constant_none (wpAny_is_self rfl (wpAny_truthy_bool ?_))))))
    rw [if_pos rfl]
    refine step fun I l s₂ F2 V2 W2 hIO hlO f2 conv => ?_
    refine wpAny_mono (nl_plain2 G F2 V2 ⟨rfl, rfl, trivial⟩ W2 hi h2 h64 hn2 hn hIO hlO hh hroom hu) (fun f s' hr => ?_) fun _ _ q => q
    have hr' := hr
    obtain ⟨D, _, _, hf, _⟩ := hr'
    exact ⟨⟨_, hf⟩, conv f s' hr⟩
  · have ka := kf'
    obtain ⟨a, _, _, _, _, _, rfl, _⟩ := ka
    refine wpAny_execs_cons (wpAny_If (wpAny_isTrue_Compare1 (V.name rfl (wpAny_Constant_none (wpAny_is_other rfl (by simp) (wpAny_truthy_bool ?_))))))
    rw [if_neg (by simp)]
    refine wpAny_execs_nil ?_
    dsimp only
    refine step fun I l s₂ F2 V2 W2 hIO hlO f2 conv => ?_
    rcases f2 with q | f2
    · cases q
    · exact wpAny_mono (nl_key2 G F2 V2 ⟨rfl, rfl, rfl, trivial⟩ f2 W2 hi h2 h64 hn2 hn hIO hlO hh hroom hu) (fun f s' hr => conv f s' hr) fun _ _ q => q
end
end Mine
end

section
open PySem PySem.W PySem.Calls PyProof.Rows
namespace Mine

theorem KpF.cut {X : Addr → Prop} {s s' : Shared} {L : Addr} {fs : List Addr} (k : KpF X (L :: fs) s s') (h : s.heap.get? L = none) : KpF X fs s s' :=
  ⟨k.k.fresh fun c q => by
    rcases q with q | q
    · exact .inl (.inl q)
    · rcases List.mem_cons.mp q with q | q
      · rw [q]; exact .inr h
      · exact .inl (.inr q), fun a ha o e => k.d a (.tail _ ha) o e⟩
theorem KpF.more {X : Addr → Prop} {s s' : Shared} {fs fs' : List Addr} (k : KpF X fs s s') (h : ∀ a ∈ fs, a ∈ fs') (hX : ∀ a ∈ fs', ¬ X a) : KpF X fs' s s' :=
  ⟨k.k.mono fun c q => q.imp id (h c), fun a ha o e => k.get (hX a ha) e⟩

section
variable {prog : Program} {w : World} {A : Around} {E : Value → Shared → Prop} {s : Shared} {H : Heap}

theorem Src.fields {h : Heap} {v : Value} {xs : List Value} {Y : Addr → Prop} (x : Src h v xs Y) {a : Addr} (q : Y a) : ∃ o vs, h.get? a = some o ∧ o.data = .fields vs := by
  cases x with
  | list => exact q.elim
  | li hi _ _ =>
    obtain ⟨o, e, _, d⟩ := hi
    exact ⟨o, _, q ▸ e, d⟩

/-- a call of nlargest -/
theorem nlargest_call {v kv : Value} {Y : Addr → Prop} {vs : List Value} {xs : List Int} {n : Nat} {tn : Tok} {args : List Value} {kw : List (Str × Value)} {outer : List Env} {Q : Value → Shared → Prop} (G : Gnd H) (on : On H s) (yH : ∀ a, Y a → H.get? a = none)
    (src : Src s.heap v vs Y) (hi : IntsAre vs xs) (h2 : 2 ≤ vs.length) (h64 : vs.length < 64) (hn1 : 1 ≤ n) (hn : n < 64) (kf : KeyFn s.heap kv) (hh : A.handled = none) (hfr : A.frames = some outer) (hff : s.heap.FunFrames H outer) (hroom : A.depth + 40 < recursionLimit) (hu : A.units + 500 < cLine)
    (hb : ∀ pm c, BindsTo s { docDef (sName (fdef 5)) (sArgs (fdef 5)) (sBody (fdef 5)) (sScope (fdef 5)) pm c .none with defaults := .ref 43 } ⟨args, kw⟩ [("n", .int n tn), ("iterable", v), ("key", kv)])
    (h : ∀ s' D ws ys, s.heap.get? D = none → PL s'.heap D ws → IntsAre ws ys → IsTop n xs ys → KpF Y (outer.filterMap (·.frame)) s s' → Q (.ref D) s') :
    wpAny (model prog w) A (call (.ref 48) args kw) Q E s := by
  refine call_cells (st := fdef 5) (G.nlargest.on on) (NoLimit.on on G.nolim) (by omega) hb rfl rfl rfl rfl rfl fun L cd s₁ V K hO => ?_
  have V : Vs (nE L cd) s₁.heap [("key", kv), ("iterable", v), ("n", .int n tn)] := V
  have on1 : On H s₁ := on.kp K fun _ q => q.elim
  have hO : ∀ b, Own (nE L cd) b → s.heap.get? b = none := hO
  have src1 := src.kp K fun _ q => q.elim
  have kf1 := kf.kp K fun _ q => q.elim
  have F1 : Fm H (nE L cd) Y s₁ := ⟨on1, fun a q => on.none (hO a q), yH⟩
  have hL : s.heap.get? L = none := hO L (.inl rfl)
  have ff1 : s₁.heap.FunFrames H (nE L cd :: outer) := by
    refine ⟨(by show ScopeKind.function ≠ ScopeKind.module; decide), ?_, hff.of_keeps fun b o e _ => ⟨o, K.keep _ _ (fun q => q) e, rfl⟩⟩
    obtain ⟨m, ⟨o, es, ep, e, d, _⟩, _⟩ := V.ns
    exact ⟨L, o, rfl, on.none hL, e, fun vs q => by rw [d] at q; cases q⟩
  have fs0 : (nE L cd :: outer).filterMap (·.frame) = L :: outer.filterMap (·.frame) := rfl
  -- what a part leaves, from s₂ on
  have fin : ∀ {s₂ : Shared} {f : Flow} {s' : Shared}, KpF (Own (nE L cd)) (outer.filterMap (·.frame)) s₁ s₂ → Res (nE L cd) Y s₂ n xs f s' → Q (match f with | .ret v => v | _ => .none) s' := by
    intro s₂ f s' k12 hr
    obtain ⟨D, ws, ys, rfl, hD, ls, hi', ht, k⟩ := hr
    have hY : ∀ a ∈ outer.filterMap (·.frame), ¬ (Y a ∨ Own (nE L cd) a) := fun a ha q => by
      obtain ⟨_, o, e, hnf⟩ := hff.mem ha
      rcases q with q | q
      · obtain ⟨o', vs', e', d⟩ := src.fields q
        rw [e] at e'; cases e'
        exact hnf _ d
      · rw [hO a q] at e; cases e
    have k02 : KpF (fun a => Y a ∨ Own (nE L cd) a) (outer.filterMap (·.frame)) s s₂ := by
      have a1 : KpF (fun a => Y a ∨ Own (nE L cd) a) (outer.filterMap (·.frame)) s s₁ := ⟨K.mono fun _ q => q.elim, fun a _ o e => ⟨o.slots, K.keep _ _ (fun q => q) e⟩⟩
      exact a1.trans (k12.mono fun _ q => .inr q)
    have kall := k02.trans (KpF.of k hY)
    refine h s' D ws ys ?_ ls hi' ht (kall.fresh fun c q => q.imp id fun q => hO c q)
    cases e : s.heap.get? D with
    | none => rfl
    | some o =>
      obtain ⟨sl, e2⟩ := k12.get (a := D) (fun q => by rw [hO D q] at e; cases e) (K.keep _ _ (fun q => q) e)
      rw [hD] at e2; cases e2
  have refl : KpF (Own (nE L cd)) (outer.filterMap (·.frame)) s₁ s₁ := ⟨Kp.rfl', fun a _ o e => ⟨o.slots, e⟩⟩
  have hlen := hi.length
  refine wpAny_execs_cons (wpAny_If (wpAny_isTrue_Compare1 (V.name rfl (wpAny_Constant_int (eq_int (wpAny_truthy_bool ?_))))))
  by_cases hn' : n = 1
  · subst hn'
    rw [if_pos (by simp)]
    have k11 : KpF (Own (nE L cd)) (outer.filterMap (·.frame)) s₁ { s₁ with toks := s₁.toks + 1 } := ⟨Kp.toks _, fun a _ o e => ⟨o.slots, e⟩⟩
    have F1' : Fm H (nE L cd) Y { s₁ with toks := s₁.toks + 1 } := ⟨F1.on, F1.ownH, F1.yH⟩
    refine wpAny_mono (nl_one G F1' V ⟨rfl, rfl, rfl, trivial⟩ src1 hi h2 kf1 hh (by show A.depth + 1 < _; omega)) (fun f s' hr => ?_) fun _ _ q => q
    have hr' := hr
    obtain ⟨D, _, _, rfl, _⟩ := hr'
    exact fin k11 hr
  · rw [if_neg (by simpa using fun q => hn' (by omega))]
    refine wpAny_execs_nil ?_
    dsimp only
    have tail : ∀ {s₂ : Shared} {bs : List (Str × Value)}, KpF (Own (nE L cd)) (outer.filterMap (·.frame)) s₁ s₂ → Vs (nE L cd) s₂.heap bs → Has bs [("n", .int n tn), ("iterable", v), ("key", kv)] →
        wpAny (model prog w) (A.deeper (nE L cd)) (execs ((sBody (fdef 5)).drop 2) (nE L cd)) (fun f s' => Q (match f with | .ret v => v | _ => .none) s') (fun _ _ => False) s₂ := by
      intro s₂ bs k12 V2 hb2
      have fH : ∀ a ∈ outer.filterMap (·.frame), H.get? a = none := fun a ha => (hff.mem ha).1
      have F2 : Fm H (nE L cd) Y s₂ := ⟨on1.kf k12 (fun a q => F1.ownH a q) fH, F1.ownH, yH⟩
      refine wpAny_mono (nl_tail G F2 V2 hb2 (src1.kf k12 fun a q o e => Own.nd V a q o e) hi h2 h64 (by omega) hn (kf1.kf k12 fun a q o e => (Own.nd V a q o e).notfn) hh (by show A.depth + 1 + 30 < _; omega) (by show A.units + 3 + 400 < _; omega)) (fun f s' hr => fin k12 hr) fun _ _ q => q
    cases id src1 with
    | @list l _ hl =>
      refine wpAny_execs_cons (wpAny_Try_except (wpAny_execs_cons (wpAny_Assign_Name (call_one G on1 (x := "len") (by decide) boot_len (V.name rfl (len_list hl (by simp; omega) ?_))))))
      refine V.put (X := Own (nE L cd)) Kp.rfl' (fun a q => q) fun s₂ V2 K2 k₂ => ?_
      dsimp only
      refine wpAny_execs_nil ?_
      dsimp only
      have hl2 : s₂.heap.IsList l vs.toArray := IsList.kp k₂ (own_list V hl) hl
      have on2 : On H s₂ := on1.kp k₂ fun a q => F1.ownH a q
      have k12 : KpF (Own (nE L cd)) (outer.filterMap (·.frame)) s₁ s₂ := KpF.of k₂ fun a ha q => by
        obtain ⟨_, o, e, _⟩ := hff.mem ha
        rw [hO a q] at e; cases e
      refine wpAny_execs_cons (wpAny_If (wpAny_isTrue_Compare1 (V2.name rfl (V2.name rfl (ge_int (wpAny_truthy_bool ?_))))))
      by_cases hge : vs.length ≤ n
      · rw [if_pos (by simpa using hge)]
        refine execs_ret (wpAny_Return_some (Subscript_ (wpAny_Call_Name_kw (gl_bi G on2 (by decide) boot_sorted (callWith_kw (spliced_cons (V2.name rfl (spliced_nil (kws_cons (V2.name rfl (kws_cons (wpAny_Constant_bool (kws_nil ?_))))))))))))) 
        show wpAny _ _ (call (.builtin "sorted") [.ref l] [(Str.ofString "key", kv), (Str.ofString "reverse", .bool true)]) _ _ _
        have kf2 : KeyFn s₂.heap kv := kf1.kp k₂ fun a q o e => (Own.nd V a q o e).notfn
        refine sorted_call hl2 hi h2 h64 kf2 (NoLimit.on on2 G.nolim) (by show A.depth + 1 < _; omega) fun s₃ D ys k₃ hD ls so => ?_
        have k₃ : Kp Nil s₂ s₃ := k₃
        have V3 := V2.kp k₃ fun _ q => q.elim
        refine wpAny_Slice (wpAny_of_eq rfl (show wpAny _ _ (eval (.Name "n" _) _) _ _ _ from V3.name rfl (wpAny_of_eq rfl ?_)))
        have ls4 : s₃.heap.get? s₃.heap.objs.size = none := get_fresh (Nat.le_refl _)
        generalize hS : ({ s₃ with heap := s₃.heap.push { cls := .type "slice", data := .fields #[.none, .int n tn, .none] } } : Shared) = s₄
        have k4 : Kp Nil s₃ s₄ := hS ▸ Kp.push (t := s₃.toks) _
        have sl4 : s₄.heap.IsSliceOf s₃.heap.objs.size .none (.int n tn) .none := by rw [← hS]; exact ⟨_, Heap.get?_push_size _ rfl, rfl, rfl⟩
        have ls4 : PL s₄.heap D ys := PL.kp k4 (fun q => q) ls
        have hys : IntsAre ys (ys.map numOf) := ints_all fun u hu => hi.all u (so.perm.mem_iff.mp hu)
        have hpick := kmk_upto (y := (n : Int)) hys (by omega)
        have hyl : ys.length = xs.length := so.perm.length_eq.trans hlen
        refine tail_any (ops := [.ref s₃.heap.objs.size, .ref D]) ls4.typeIs slot_list_getitem.lookup (wpAny_getItem_list_slice ls4.isList sl4 .none (.int n tn) .none (by simp) ?_ ?_) rfl
        · refine ⟨⟨_, rfl⟩, fin k12 ⟨s₄.heap.objs.size, (slicePick ys.toArray none (some (n : Int)) none).toList, ys.map numOf, rfl, ?_, ⟨_, 0, Heap.get?_push_size _ rfl, rfl, rfl, rfl⟩, ?_, isTop_sorted hi so (by omega), ?_⟩⟩
          · exact k₃.none (fun q => q) (k4.none (fun q => q) (get_fresh (Nat.le_refl _)))
          · rw [List.take_of_length_le (by rw [List.length_map, hyl]; simp; omega)] at hpick
            exact hpick
          · exact ((k₃.trans k4).trans (Kp.push (t := s₄.toks) _)).mono fun _ q => q.elim
        · rw [List.size_toArray, sizeLine_eq]; omega
      · rw [if_neg (by simpa using hge)]
        refine wpAny_execs_nil (wpAny_execs_nil ?_)
        dsimp only
        exact tail k12 V2 ⟨rfl, rfl, rfl, trivial⟩
    | @li it l _ items i hit hl hd =>
      have L1 : LIt s₁.heap it l vs := .inl ⟨items, i, hit, hl, hd⟩
      refine wpAny_execs_cons (wpAny_Try_except (wpAny_execs_cons (wpAny_Assign_Name (call_one G on1 (x := "len") (by decide) boot_len (V.name rfl (len_li hh L1 fun s₂ e ne hg ho => ?_))))))
      have hfr1 : (A.deeper (nE L cd)).frames = some (nE L cd :: outer) := Around.frames_deeper hfr
      refine caught G on1 hfr1 rfl ff1 ne hg ho rfl rfl rfl rfl rfl fun s₃ k3 => ?_
      dsimp only
      rw [fs0] at k3
      exact tail ⟨k3.k.mono fun a q => by
        rcases q with q | q
        · exact q.elim
        · rcases List.mem_cons.mp q with q | q
          · exact .inl (.inl q)
          · exact .inr q, fun a ha o e => k3.d a (.tail _ ha) o e⟩ (V.kf k3 fun _ q => q.elim) ⟨rfl, rfl, rfl, trivial⟩
end
end Mine
end

section
open PySem PySem.W PySem.Calls PyProof.Rows
namespace Mine

abbrev lamQ : Str := sName (fdef 7) ++ ".<locals>." ++ "<lambda>"
/-- the ground with what the lambdas need -/
structure GndL (H : Heap) : Prop where
  g : Gnd H
  few : ∃ o pm, H.get? 55 = some o ∧ o.data = .func (docDef (sName (fdef 7)) (sArgs (fdef 7)) (sBody (fdef 7)) (sScope (fdef 7)) pm (.ref 54) .none) ∧ H.CodeRec (.ref 54) (sName (fdef 7))
  code : CodeHd H 54 50
  bt : ∃ mg, H.Ns mainGlobals mg ∧ H.BuiltinsAt mg 50
  h50 : H.get? 50 = none
/-- the table of the codes in _law_few -/
def TabOk (s : Shared) : Prop := ∃ ps, s.heap.get? 50 = some (tabObj ps) ∧ TriplesOk ps.toList ∧ ∀ pos c, codeAmong pos ps.toList = some c → ∃ c', c = .ref c' ∧ s.heap.CodeRec (.ref c') lamQ
theorem CodeRec.kf {X : Addr → Prop} {fs : List Addr} {s s' : Shared} {c : Value} {q : Str} (k : KpF X fs s s') (x : s.heap.CodeRec c q) (hX : ∀ b, X b → ∀ o, s.heap.get? b = some o → NotFn o) : s'.heap.CodeRec c q := by
  obtain ⟨a, o, vs, t, e0, e1, d, v⟩ := x
  obtain ⟨sl, e'⟩ := k.get (fun r => (hX a r o e1).2 vs d _ _ v) e1
  exact ⟨a, _, vs, t, e0, e', d, v⟩
theorem TabOk.kf {X : Addr → Prop} {fs : List Addr} {s s' : Shared} (T : TabOk s) (k : KpF X fs s s') (h50 : ¬ X 50) (hf : 50 ∉ fs) (hX : ∀ b, X b → ∀ o, s.heap.get? b = some o → NotFn o) : TabOk s' := by
  obtain ⟨ps, e, t, h⟩ := T
  exact ⟨ps, k.k.keep _ _ (fun q => q.elim h50 hf) e, t, fun pos c q => let ⟨c', e', r⟩ := h pos c q; ⟨c', e', CodeRec.kf k r hX⟩⟩
theorem TabOk.kp {X : Addr → Prop} {s s' : Shared} (T : TabOk s) (k : Kp X s s') (h50 : ¬ X 50) (hX : ∀ b, X b → ∀ o, s.heap.get? b = some o → NotFn o) : TabOk s' :=
  T.kf (KpF.of (fs := []) k fun _ h => nomatch h) h50 (fun h => nomatch h) hX

theorem triples_no_str {ps : Array Value} {q : Str} {t : Tok} (h : TriplesOk ps.toList) (v : ps[1]? = some (.str q t)) : False := by
  rw [← Array.getElem?_toList] at v
  cases e : ps.toList with
  | nil => rw [e] at v; cases v
  | cons a l =>
    rw [e] at v h
    cases l with
    | nil => cases v
    | cons b l =>
      cases v
      cases a <;> exact h
theorem codeAmong_snoc_some {pos pos' : Pos} {c c' : Value} : ∀ (l : List Value), TriplesOk l → codeAmong pos (l ++ [rawInt pos'.line, rawInt pos'.col, c]) = some c' → codeAmong pos l = some c' ∨ c' = c := by
  intro l
  fun_induction TriplesOk l with
  | case1 =>
    intro _ h
    simp only [List.nil_append, codeAmong, rawInt] at h
    split at h
    · cases h; exact .inr rfl
    · cases h
  | case2 a t b u x rest ih =>
    intro hl h
    simp only [List.cons_append, codeAmong] at h ⊢
    split at h
    · rename_i hc; rw [if_pos hc]; exact .inl h
    · rename_i hc; rw [if_neg hc]; exact ih hl h
  | case3 l h1 h2 => exact fun h => h.elim

section
variable {prog : Program} {w : World} {A : Around} {E : Value → Shared → Prop} {s : Shared} {H : Heap}

abbrev fE (L : Addr) : Env := envOf (sName (fdef 7)) (sScope (fdef 7)) L 55 (.ref 54)

/-- «lambda x: x» made in _law_few -/
theorem lam_make {L : Addr} {sc : Scope} {px pa pos : Pos} {Q : Value → Shared → Prop} (G : GndL H) (on : On H s) (T : TabOk s) (hsn : sc.names = [(("x" : Str), NameKind.local)]) (hsk : sc.kind = .function) (hsg : sc.isGenerator = false) (hsc : sc.isCoroutine = false)
    (hcl : closureFor sc (fE L) = pure [])
    (h : ∀ f s', IdFn s'.heap (.ref f) → TabOk s' → Kp (· = 50) s s' → Q (.ref f) s') :
    wpAny (model prog w) A (eval (.Lambda { posonlyargs := [], args := [{ arg := "x", annotation := none, pos := pa }], vararg := none, kwonlyargs := [], kw_defaults := [], kwarg := none, defaults := [] } (.Name "x" px) sc pos) (fE L)) Q E s := by
  obtain ⟨ps, hP, ht, hc⟩ := T
  obtain ⟨mg, hg, hb⟩ := G.bt
  have hg' := Ns.on on hg
  have hb' : s.heap.BuiltinsAt mg 50 := hb.keeps on
  refine kla_eval rfl ?_
  cases hca : codeAmong pos ps.toList with
  | some cv =>
    refine kla_makeFunctionHit (mg := mg) hcl rfl hg' rfl (G.code.keeps on) hP ht hca hb' fun ctv h' tk hk hsz => ?_
    obtain ⟨c', rfl, hrec⟩ := hc pos cv hca
    have k : Kp (· = 50) s { s with heap := h'.push { cls := .type "function", data := .func (kla_fn "<lambda>" ((fE L).qual ++ "<lambda>") { posonlyargs := [], args := [{ arg := "x", annotation := none, pos := pa }], vararg := none, kwonlyargs := [], kw_defaults := [], kwarg := none, defaults := [] } (.Name "x" px) sc [] ((mg "__name__").getD .none) (.ref c') ctv) }, toks := tk } :=
      ⟨fun b o _ e => Heap.get?_push_of_some _ (hk b o e), rfl, rfl⟩
    have kn : Kp Nil s { s with heap := h'.push { cls := .type "function", data := .func (kla_fn "<lambda>" ((fE L).qual ++ "<lambda>") { posonlyargs := [], args := [{ arg := "x", annotation := none, pos := pa }], vararg := none, kwonlyargs := [], kw_defaults := [], kwarg := none, defaults := [] } (.Name "x" px) sc [] ((mg "__name__").getD .none) (.ref c') ctv) }, toks := tk } :=
      ⟨fun b o _ e => Heap.get?_push_of_some _ (hk b o e), rfl, rfl⟩
    have hrec' := CodeRec.kf (KpF.of (fs := []) kn fun _ h => nomatch h) hrec fun _ q => q.elim
    exact h _ _ ⟨_, _, _, px, pa, c', rfl, Heap.get?_push_size _ rfl, rfl, rfl, rfl, hsn, hsk, hsg, hsc, rfl, rfl, rfl, hrec'⟩ (TabOk.kp ⟨ps, hP, ht, hc⟩ kn (fun q => q) fun _ q => q.elim) k
  | none =>
    have hgP : mainGlobals ≠ 50 := fun q => by
      obtain ⟨o, es, ep, e, hd, _⟩ := hg
      rw [q, G.h50] at e; cases e
    refine kla_makeFunction (mg := mg) hcl rfl hg' rfl (G.code.keeps on) hP ht hca hgP hb' fun c' ctv h' tk hx hge hlt hrec htb => ?_
    have k : Kp (· = 50) s { s with heap := h'.push (kla_obj "<lambda>" ((fE L).qual ++ "<lambda>") { posonlyargs := [], args := [{ arg := "x", annotation := none, pos := pa }], vararg := none, kwonlyargs := [], kw_defaults := [], kwarg := none, defaults := [] } (.Name "x" px) sc [] ((mg "__name__").getD .none) c' ctv), toks := tk } :=
      ⟨fun b o hb e => Heap.get?_push_of_some _ (hx b o hb e), rfl, rfl⟩
    have up : ∀ {q : Str} {c : Value}, h'.CodeRec c q → (h'.push (kla_obj "<lambda>" ((fE L).qual ++ "<lambda>") { posonlyargs := [], args := [{ arg := "x", annotation := none, pos := pa }], vararg := none, kwonlyargs := [], kw_defaults := [], kwarg := none, defaults := [] } (.Name "x" px) sc [] ((mg "__name__").getD .none) c' ctv)).CodeRec c q := fun r => by
      obtain ⟨a, o, vs, t, e0, e1, d, v⟩ := r
      exact ⟨a, o, vs, t, e0, Heap.get?_push_of_some _ e1, d, v⟩
    refine h _ _ ⟨_, _, _, px, pa, c', rfl, Heap.get?_push_size _ rfl, rfl, rfl, rfl, hsn, hsk, hsg, hsc, rfl, rfl, rfl, up hrec⟩ ⟨_, Heap.get?_push_of_some _ htb, ?_, fun pos' c hp => ?_⟩ k
    · rw [Array.toList_append]; exact TriplesOk_snoc _ _ _ _ ht
    · rw [Array.toList_append] at hp
      rcases codeAmong_snoc_some _ ht hp with q | q
      · obtain ⟨c₂, e, a, o, vs, t, e0, e1, d, v⟩ := hc pos' c q
        refine ⟨c₂, e, up ⟨a, o, vs, t, e0, hx a o (fun r => ?_) e1, d, v⟩⟩
        rw [r, hP] at e1; cases e1
        cases d
        exact triples_no_str ht v
      · exact ⟨c', q, up hrec⟩
end
end Mine
end

section
open PySem PySem.W PySem.Calls PyProof.Rows
namespace Mine

theorem Src.by_cls {h h' : Heap} {v : Value} {xs : List Value} {Y : Addr → Prop} (x : Src h v xs Y) (k : ∀ a o, h.get? a = some o → (o.cls = .type "list" ∨ o.cls = .type "list_iterator") → h'.get? a = some o) : Src h' v xs Y := by
  have kl : ∀ {l : Addr} {its : Array Value}, h.IsList l its → h'.IsList l its := fun y => let ⟨o, e, hc, r⟩ := y; ⟨o, k _ _ e (.inl hc), hc, r⟩
  cases x with
  | list hl => exact .list (kl hl)
  | li a b c =>
    obtain ⟨o, e, hc, r⟩ := a
    exact .li ⟨o, k _ _ e (.inr hc), hc, r⟩ (kl b) c

section
variable {prog : Program} {w : World} {A : Around} {E : Value → Shared → Prop} {s : Shared} {H : Heap}

/-- a call of a plain def without cells, its code told -/
theorem call_fnc {a c : Addr} {st : Stmt} {args : List Value} {binds : List (Str × Value)} {Q : Value → Shared → Prop} (F : ∃ o pm, s.heap.get? a = some o ∧ o.data = .func (docDef (sName st) (sArgs st) (sBody st) (sScope st) pm (.ref c) .none) ∧ s.heap.CodeRec (.ref c) (sName st)) (hl : s.heap.NoLimit) (hroom : A.depth < recursionLimit)
    (hb : ∀ pm c, bindArgs (docDef (sName st) (sArgs st) (sBody st) (sScope st) pm c .none) ⟨args, []⟩ = pure binds)
    (hloc : (binds.all fun x => decide ((sScope st).names.lookup x.1 = some .local)) = true)
    (hcell : (sScope st).names.all (fun p => p.2 != .cell && p.2 != .free) = true)
    (hco : (sScope st).isCoroutine = false) (hgen : (sScope st).isGenerator = false) (hk : (sScope st).kind = .function)
    (h : ∀ L s₁, Vs (envOf (sName st) (sScope st) L a (.ref c)) s₁.heap binds.reverse → Kp Nil s s₁ → s.heap.get? L = none →
      wpAny (model prog w) (A.deeper (envOf (sName st) (sScope st) L a (.ref c))) (execs (sBody st) (envOf (sName st) (sScope st) L a (.ref c)))
        (fun f s' => Q (match f with | .ret v => v | _ => .none) s') (fun _ _ => False) s₁) :
    wpAny (model prog w) A (call (.ref a) args) Q E s := by
  obtain ⟨o, pm, ho, hd, hc⟩ := F
  have hcell' : ∀ x ∈ (sScope st).names, x.2 ≠ .cell := fun x hx => by
    have := List.all_eq_true.mp hcell x hx
    simp only [Bool.and_eq_true] at this
    simpa using this.1
  refine wpAny_call (call_plain_ret hroom ho hd hl hc (hb pm (.ref c)) (locs hloc) (fun h₁ Fr1 => ?_) hco hgen hk hcell')
  refine wpAny_mono (h s.heap.objs.size _ (Vs.of Fr1.ns (fun x v e => e) hcell rfl) ⟨fun b o' _ e => Fr1.keep b o' e, rfl, rfl⟩ (get_fresh (Nat.le_refl _))) (fun f s' q => q) fun _ _ q => q.elim

theorem nl_args {env : Env} {p pos : Pos} {e1 e2 : PySem.Expr} {kws : List Keyword} {Q : Value → Shared → Prop} (G : Gnd H) (on : On H s)
    (hall : (backToKw pos (keywordEach kws env)).all (·.1.isSome) = true)
    (h : wpAny (model prog w) A (spliced (backTo pos (starEach [e1, e2] env))) (fun vs s₁ => wpAny (model prog w) A (evalAll ((backToKw pos (keywordEach kws env)).map (·.2)))
      (fun ks s₂ => On H s₂ ∧ wpAny (model prog w) A (call (.ref 48) vs (((backToKw pos (keywordEach kws env)).filterMap (·.1)).zip ks)) Q E s₂) E s₁) E s)
    (he : starEach [e1, e2] env = (false, eval e1 env) :: starEach [e2] env := by rfl)
    (hk : env.kindOf "nlargest" = some .globalImplicit := by rfl) (hf : env.scope.kind = .function := by rfl) (hg : env.globals = mainGlobals := by rfl) :
    wpAny (model prog w) A (eval (.Call (.Name "nlargest" p) [e1, e2] kws pos) env) Q E s := by
  obtain ⟨o, pm, c, ho, hdt, hc⟩ := G.nlargest
  refine wpAny_Call_Name_kw (gl_fn G on (x := "nlargest") rfl ?_ hk hf hg)
  refine callWith_function_kw (o := o) (evalArgs_kw2 hall (wpAny_mono h (fun vs s₁ h₁ => wpAny_mono h₁ (fun ks s₂ h₂ => ⟨⟨h₂.1 _ _ ho, hdt⟩, h₂.2⟩) fun _ _ q => q) fun _ _ q => q) he)

/-- a call of _law_few -/
theorem few_call {n : Nat} {tn tw : Tok} {l : Addr} {vs : List Value} {xs : List Int} {way : Int} {outer : List Env} {Q : Value → Shared → Prop} (G : GndL H) (on : On H s) (T : TabOk s) (hl : s.heap.IsList l vs.toArray) (hi : IntsAre vs xs) (h2 : 2 ≤ vs.length) (h64 : vs.length < 64) (hn1 : 1 ≤ n) (hn : n < 64)
    (hh : A.handled = none) (hfr : A.frames = some outer) (hff : s.heap.FunFrames H outer) (hroom : A.depth + 60 < recursionLimit) (hu : A.units + 600 < cLine)
    (h : ∀ s' D ws ys, s.heap.get? D = none → PL s'.heap D ws → IntsAre ws ys → IsTop n xs ys → TabOk s' → KpF (· = 50) (outer.filterMap (·.frame)) s s' → Q (.ref D) s') :
    wpAny (model prog w) A (call (.ref 55) [.int n tn, .ref l, .int way tw]) Q E s := by
  have few' : ∃ o pm, s.heap.get? 55 = some o ∧ o.data = .func (docDef (sName (fdef 7)) (sArgs (fdef 7)) (sBody (fdef 7)) (sScope (fdef 7)) pm (.ref 54) .none) ∧ s.heap.CodeRec (.ref 54) (sName (fdef 7)) := by
    obtain ⟨o, pm, e, d, c⟩ := G.few
    exact ⟨o, pm, on _ _ e, d, CodeRec.on on c⟩
  refine call_fnc (st := fdef 7) (binds := [("wish", .int n tn), ("row", .ref l), ("way", .int way tw)]) few' (NoLimit.on on G.g.nolim) (by omega) (fun _ _ => rfl) rfl rfl rfl rfl rfl fun L s₁ V K hL => ?_
  have V : Vs (fE L) s₁.heap [("way", .int way tw), ("row", .ref l), ("wish", .int n tn)] := V
  have fs0 : (fE L :: outer).filterMap (·.frame) = L :: outer.filterMap (·.frame) := rfl
  obtain ⟨ps, e50, _⟩ := id T
  have n50 : 50 ∉ L :: outer.filterMap (·.frame) := fun q => by
    rcases List.mem_cons.mp q with q | q
    · rw [← q, e50] at hL; cases hL
    · obtain ⟨_, o, e, d⟩ := hff.mem q
      rw [e50] at e; cases e
      exact d _ rfl
  -- the setting at s₂
  have call : ∀ {s₂ : Shared} {v kv : Value} {Y : Addr → Prop} {kw : List (Str × Value)}, On H s₂ → TabOk s₂ → Kp (fun a => a = 50 ∨ s.heap.get? a = none) s s₂ → Vs (fE L) s₂.heap [("way", .int way tw), ("row", .ref l), ("wish", .int n tn)] → Src s₂.heap v vs Y → (∀ a, Y a → s.heap.get? a = none) → KeyFn s₂.heap kv →
      (∀ pm c, BindsTo s₂ { docDef (sName (fdef 5)) (sArgs (fdef 5)) (sBody (fdef 5)) (sScope (fdef 5)) pm c .none with defaults := .ref 43 } ⟨[.int n tn, v], kw⟩ [("n", .int n tn), ("iterable", v), ("key", kv)]) →
      wpAny (model prog w) (A.deeper (fE L)) (PySem.call (.ref 48) [.int n tn, v] kw) (fun r s' => Q r s') (fun _ _ => False) s₂ := by
    intro s₂ v kv Y kw on2 T2 K2 V2 src hY kf hb
    have ff2 : s₂.heap.FunFrames H (fE L :: outer) := by
      refine ⟨(by show ScopeKind.function ≠ ScopeKind.module; decide), ?_, hff.of_keeps fun b o e d => ⟨o, K2.keep _ _ (fun q => ?_) e, rfl⟩⟩
      · obtain ⟨m, ⟨o, es, ep, e, d, _⟩, _⟩ := V2.ns
        exact ⟨L, o, rfl, on.none hL, e, fun vs q => by rw [d] at q; cases q⟩
      · rcases q with q | q
        · rw [q, e50] at e; cases e
          exact d _ rfl
        · rw [q] at e; cases e
    refine nlargest_call G.g on2 (fun a q => on.none (hY a q)) src hi h2 h64 hn1 hn kf hh (Around.frames_deeper hfr) ff2 (by show A.depth + 1 + 40 < _; omega) (by show A.units + 3 + 500 < _; omega) hb fun s' D ws ys hD ls hws ht k => ?_
    rw [fs0] at k
    have Yn : ∀ a, Y a → ∀ o, s₂.heap.get? a = some o → NotFn o := fun a q o e => by
      cases src with
      | list => exact q.elim
      | li hit hl' hd => exact NotFn.li (.inl ⟨_, _, hit, hl', hd⟩) (q ▸ e)
    have T' : TabOk s' := T2.kf k (fun q => by rw [hY 50 q] at e50; cases e50) n50 Yn
    have k02 : KpF (fun a => a = 50 ∨ s.heap.get? a = none) (L :: outer.filterMap (·.frame)) s s₂ := ⟨K2.mono fun _ q => .inl q, fun a ha o e => by
      refine ⟨o.slots, K2.keep _ _ (fun q => ?_) e⟩
      rcases q with q | q
      · exact n50 (q ▸ ha)
      · rw [q] at e; cases e⟩
    have kall : KpF (· = 50) (outer.filterMap (·.frame)) s s' := KpF.cut ((k02.trans (k.mono fun a q => .inr (hY a q))).fresh fun c q => q) hL
    refine h s' D ws ys ?_ ls hws ht T' kall
    cases e : s.heap.get? D with
    | none => rfl
    | some o =>
      by_cases q : D = 50
      · obtain ⟨ps2, e2, _⟩ := T2
        rw [q, e2] at hD; cases hD
      · have := K2.keep D o (fun r => r.elim q fun r => by rw [r] at e; cases e) e
        rw [hD] at this; cases this
  have on1 : On H s₁ := on.kp K fun _ q => q.elim
  have T1 : TabOk s₁ := T.kp K (fun q => q) fun _ q => q.elim
  have hl1 : s₁.heap.IsList l vs.toArray := IsList.kp K (fun q => q) hl
  have K1 : Kp (fun a => a = 50 ∨ s.heap.get? a = none) s s₁ := K.mono fun _ q => q.elim
  obtain ⟨od, nd, ed, dd⟩ := G.g.dflt
  have h50H : ∀ a, a = 50 → H.get? a = none := fun a q => by rw [q]; exact G.h50
  have l50 : l ≠ 50 := fun q => by
    obtain ⟨o, e, hc, _⟩ := hl
    rw [q, e50] at e; cases e; cases hc
  have L50 : ¬ Own (fE L) 50 := fun q => by
    have := own_of _ q
    exact n50 (by rw [this]; exact .head _)
  -- way 0
  refine wpAny_execs_cons (wpAny_If (wpAny_isTrue_Compare1 (V.name rfl (wpAny_Constant_int (eq_int (wpAny_truthy_bool ?_))))))
  by_cases h0 : way = 0
  · rw [if_pos (by simpa using h0)]
    refine execs_ret (wpAny_Return_some (nl_args (kws := []) G.g on1 rfl (spliced_cons (V.name rfl (spliced_cons (V.name rfl (spliced_nil (kws_nil ⟨on1, ?_⟩))))))))
    refine wpAny_mono (call (Y := Nil) (kv := .none) (kw := []) on1 T1 (K1.trans (Kp.toks _)) V (.list hl1) (fun _ q => q.elim) (.inl rfl) fun pm c => BindsTo.of_defaults rfl (on1 _ _ ed) dd rfl rfl) (fun r s' q => ⟨⟨_, rfl⟩, q⟩) fun _ _ q => q
  rw [if_neg (by simpa using h0)]
  refine wpAny_execs_nil ?_
  dsimp only
  -- what iter(row) brings
  have it : ∀ {s₂ : Shared} {Q' : Value → Shared → Prop} {E' : Value → Shared → Prop} {p1 p2 p3 : Pos}, On H s₂ → TabOk s₂ → Kp (fun a => a = 50 ∨ s.heap.get? a = none) s s₂ → Vs (fE L) s₂.heap [("way", .int way tw), ("row", .ref l), ("wish", .int n tn)] → s₂.heap.IsList l vs.toArray →
      (∀ I s₃, On H s₃ → TabOk s₃ → Kp (fun a => a = 50 ∨ s.heap.get? a = none) s s₃ → Vs (fE L) s₃.heap [("way", .int way tw), ("row", .ref l), ("wish", .int n tn)] → Src s₃.heap (.ref I) vs (· = I) → s.heap.get? I = none → Q' (.ref I) s₃) →
      wpAny (model prog w) (A.deeper (fE L)) (eval (.Call (.Name "iter" p1) [.Name "row" p2] [] p3) (fE L)) Q' E' s₂ := by
    intro s₂ Q' E' p1 p2 p3 on2 T2 K2 V2 hl2 hQ
    refine call_one G.g on2 (x := "iter") (by decide) boot_iter (V2.name rfl (call_iter (.list hl2) fun I l' s₃ W hI _ _ k₃ => ?_))
    have hI : s₂.heap.get? I = none := hI.resolve_left fun q => q
    have I0 : s.heap.get? I = none := by
      cases e : s.heap.get? I with
      | none => rfl
      | some o =>
        by_cases q : I = 50
        · obtain ⟨ps2, e2, _⟩ := T2
          rw [q, e2] at hI; cases hI
        · have := K2.keep I o (fun r => r.elim q fun r => by rw [r] at e; cases e) e
          rw [hI] at this; cases this
    refine hQ I s₃ (on2.kp k₃ fun _ q => q.elim) (T2.kp k₃ (fun q => q) fun _ q => q.elim) (K2.trans (k₃.mono fun _ q => q.elim)) (V2.kp k₃ fun _ q => q.elim) ?_ I0
    rcases W.li with ⟨items, i, a, b, c⟩ | ⟨q, _⟩
    · exact .li a b c
    · rw [q] at h2; simp at h2
  -- way 1
  refine wpAny_execs_cons (wpAny_If (wpAny_isTrue_Compare1 (V.name rfl (wpAny_Constant_int (eq_int (wpAny_truthy_bool ?_))))))
  by_cases h1 : way = 1
  · rw [if_pos (by simpa using h1)]
    refine execs_ret (wpAny_Return_some (nl_args (kws := []) G.g on1 rfl (spliced_cons (V.name rfl (spliced_cons (it on1 T1 ((K1.trans (Kp.toks _)).trans (Kp.toks _)) V hl1 fun I s₃ on3 T3 K3 V3 src I0 => spliced_nil (kws_nil ⟨on3, ?_⟩)))))))
    refine wpAny_mono (call (kv := .none) (kw := []) on3 T3 K3 V3 src (fun a q => by rw [q]; exact I0) (.inl rfl) fun pm c => BindsTo.of_defaults rfl (on3 _ _ ed) dd rfl rfl) (fun r s' q => ⟨⟨_, rfl⟩, q⟩) fun _ _ q => q
  rw [if_neg (by simpa using h1)]
  refine wpAny_execs_nil ?_
  dsimp only
  -- way 2
  refine wpAny_execs_cons (wpAny_If (wpAny_isTrue_Compare1 (V.name rfl (wpAny_Constant_int (eq_int (wpAny_truthy_bool ?_))))))
  by_cases hw : way = 2
  · rw [if_pos (by simpa using hw)]
    refine execs_ret (wpAny_Return_some (nl_args G.g on1 rfl (spliced_cons (V.name rfl (spliced_cons (V.name rfl (spliced_nil (kws_cons (lam_make G on1 T1 rfl rfl rfl rfl rfl fun f s₃ hf T3 k₃ => kws_nil ⟨?_, ?_⟩)))))))))
    · exact on1.kp k₃.un h50H
    · have on3 : On H s₃ := on1.kp k₃.un h50H
      have k13 : Kp (· = 50) s₁ s₃ := k₃.un
      have K3 := K1.trans (k13.mono fun a q => .inl q)
      refine wpAny_mono (call (Y := Nil) (kv := .ref f) (kw := [(Str.ofString "key", .ref f)]) on3 T3 K3 (V.kp k13 fun a q o => L50 (q ▸ o)) (.list (IsList.kp k13 l50 hl1)) (fun _ q => q.elim) (.inr hf) fun pm c => BindsTo.of_defaults rfl (on3 _ _ ed) dd rfl rfl) (fun r s' q => ⟨⟨_, rfl⟩, q⟩) fun _ _ q => q
  rw [if_neg (by simpa using hw)]
  refine wpAny_execs_nil ?_
  dsimp only
  refine execs_ret (wpAny_Return_some (nl_args G.g on1 rfl (spliced_cons (V.name rfl (spliced_cons (it on1 T1 (((K1.trans (Kp.toks _)).trans (Kp.toks _)).trans (Kp.toks _)) V hl1 fun I s₂ on2 T2 K2 V2 src I0 => spliced_nil (kws_cons (lam_make G on2 T2 rfl rfl rfl rfl rfl fun f s₃ hf T3 k₃ => kws_nil ⟨?_, ?_⟩))))))))
  · exact on2.kp k₃ h50H
  · have on3 : On H s₃ := on2.kp k₃ h50H
    have K3 := K2.trans (k₃.mono fun a q => .inl q)
    have I50 : I ≠ 50 := fun q => by rw [q, e50] at I0; cases I0
    have src3 : Src s₃.heap (.ref I) vs (· = I) := src.by_cls fun a o e hc => k₃.keep _ _ (fun q => by
      obtain ⟨ps2, e2, _⟩ := T2
      rw [q, e2] at e; cases e
      rcases hc with hc | hc <;> cases hc) e
    refine wpAny_mono (call (kv := .ref f) (kw := [(Str.ofString "key", .ref f)]) on3 T3 K3 (V2.kp k₃ fun a q o => L50 (q ▸ o)) src3 (fun a q => by rw [q]; exact I0) (.inr hf) fun pm c => BindsTo.of_defaults rfl (on3 _ _ ed) dd rfl rfl) (fun r s' q => ⟨⟨_, rfl⟩, q⟩) fun _ _ q => q
end
end Mine
end

section
open PySem PySem.W PySem.Calls PyProof.Rows
namespace Mine

inductive All2 {α β : Type} (R : α → β → Prop) : List α → List β → Prop
  | nil : All2 R [] []
  | cons {a : α} {b : β} {as : List α} {bs : List β} : R a b → All2 R as bs → All2 R (a :: as) (b :: bs)
section
variable {α β : Type} {R S : α → β → Prop}
theorem All2.length {as : List α} {bs : List β} (h : All2 R as bs) : as.length = bs.length := by
  induction h with
  | nil => rfl
  | cons _ _ ih => simp [ih]
theorem All2.imp (hi : ∀ a b, R a b → S a b) {as : List α} {bs : List β} (h : All2 R as bs) : All2 S as bs := by
  induction h with
  | nil => exact .nil
  | cons r _ ih => exact .cons (hi _ _ r) ih
theorem All2.imp' {as : List α} {bs : List β} (h : All2 R as bs) (hi : ∀ a b, a ∈ as → b ∈ bs → R a b → S a b) : All2 S as bs := by
  induction h with
  | nil => exact .nil
  | cons r _ ih => exact .cons (hi _ _ (.head _) (.head _) r) (ih fun a b ha hb => hi a b (.tail _ ha) (.tail _ hb))
theorem All2.snoc {as : List α} {bs : List β} (h : All2 R as bs) {a : α} {b : β} (r : R a b) : All2 R (as ++ [a]) (bs ++ [b]) := by
  induction h with
  | nil => exact .cons r .nil
  | cons r' _ ih => exact .cons r' ih
theorem All2.get {as : List α} {bs : List β} (h : All2 R as bs) {i : Nat} {a : α} (e : as[i]? = some a) : ∃ b, bs[i]? = some b ∧ R a b := by
  induction h generalizing i with
  | nil => cases e
  | cons r _ ih =>
    cases i with
    | zero => cases e; exact ⟨_, rfl, r⟩
    | succ i => exact ih e
theorem All2.get' {as : List α} {bs : List β} (h : All2 R as bs) {i : Nat} {b : β} (e : bs[i]? = some b) : ∃ a, as[i]? = some a ∧ R a b := by
  induction h generalizing i with
  | nil => cases e
  | cons r _ ih =>
    cases i with
    | zero => cases e; exact ⟨_, rfl, r⟩
    | succ i => exact ih e
end

/-- no list and no tuple -/
def NS (o : Obj) : Prop := ∀ xs n, o.data ≠ .seq xs n
theorem Nd.ns {o : Obj} (x : Nd o) : NS o := fun _ _ h => x.seq h
theorem NS.fields {o : Obj} {xs : Array Value} (h : o.data = .fields xs) : NS o := fun _ _ q => by rw [h] at q; cases q
/-- R holds on where lists other than D are left alone -/
def Stable {β : Type} (R : Addr → Shared → Value → β → Prop) : Prop :=
  ∀ D s s' v b X fs, R D s v b → KpF X fs s s' → (∀ a, X a → a = D ∨ ∀ o, s.heap.get? a = some o → NS o) → R D s' v b
/-- v is the int b -/
def RInt : Addr → Shared → Value → Int → Prop := fun _ _ v b => ∃ t, v = .int b t
theorem RInt.stable : Stable RInt := fun _ _ _ _ _ _ _ h _ _ => h
/-- v is a list of the ints ys, and not D -/
def RRow : Addr → Shared → Value → List Int → Prop := fun D s v ys => ∃ r vs, v = .ref r ∧ r ≠ D ∧ PL s.heap r vs ∧ IntsAre vs ys
theorem RRow.stable : Stable RRow := fun D s s' v b X fs h k hX => by
  obtain ⟨r, vs, rfl, hr, ls, hi⟩ := h
  refine ⟨r, vs, rfl, hr, PL.kf k (fun q => ?_) ls, hi⟩
  obtain ⟨o, n, e, _, _, d⟩ := ls
  rcases hX r q with z | z
  · exact hr z
  · exact z o e _ _ d
def RAny : Addr → Shared → Value → Unit → Prop := fun _ _ _ _ => True
theorem RAny.stable : Stable RAny := fun _ _ _ _ _ _ _ h _ _ => h

/-- what a comprehension's loop may turn, seen from s₀ -/
def Xc (s₀ : Shared) (a : Addr) : Prop := a = 50 ∨ s₀.heap.get? a = none
/-- what stands at the end of a comprehension's loop -/
structure LoopEnd {β : Type} (R : Addr → Shared → Value → β → Prop) (P : Nat → β → Prop) (idx : List Nat) (cenv : Env) (cs : List (Str × Value)) (D : Addr) (fs : List Addr) (s₀ s' : Shared) (ws : List Value) (bs : List β) : Prop where
  ls : PL s'.heap D ws
  r : All2 (R D s') ws bs
  p : All2 P idx bs
  V : Vs cenv s'.heap cs
  K : KpF (Xc s₀) fs s₀ s'
  T : TabOk s'

section
variable {prog : Program} {w : World} {A : Around} {E : Value → Shared → Prop} {s : Shared} {H : Heap} {β : Type}

/-- a loop over a range -/
theorem range_loop {R : Addr → Shared → Value → β → Prop} {P : Nat → β → Prop} {env : Env} {scope : Scope} {cl : List (Str × Addr)} {cs : List (Str × Value)} {fs : List Addr} {x : Str} {px : Pos} {elt : PySem.Expr} {I D C cc : Addr} {x0 step : Int} {cnt : Nat} {s₀ s₂ s₃ : Shared} {fin : Shared → Prop}
    (hR : Stable R) (X : CompAt env scope cl cs D C s₂ s₃) (K02 : Kp Nil s₀ s₂) (hI0 : s₀.heap.get? I = none) (hI : IsRangeIter s₂.heap I x0 cnt step) (T : TabOk s₂) (hfs : ∀ a ∈ fs, ∃ o, s₀.heap.get? a = some o) (n50 : 50 ∉ fs) (hcnt : cnt < 64) (hh : A.handled = none) (hcx : cs.lookup x = none)
    (hcc : s₂.heap.get? cc = none) (hccO : Own (compE scope cl C env) cc) (hDcc : D ≠ cc)
    (hput : ∀ (s' : Shared) (v : Value) (E' : Value → Shared → Prop) (Q' : Unit → Shared → Prop), Vs (compE scope cl C env) s'.heap cs → (∀ s'', Vs (compE scope cl C env) s''.heap ((x, v) :: cs) → Kp (· = cc) s' s'' → Q' () s'') → wpAny (model prog w) A (storeName (compE scope cl C env) x v) Q' E' s')
    (helt : ∀ (i : Nat) (s' : Shared) (t : Tok) (E' : Value → Shared → Prop) (Q' : Value → Shared → Prop), i < cnt → Vs (compE scope cl C env) s'.heap ((x, .int (x0 + i * step) t) :: cs) → KpF (Xc s₀) fs s₀ s' → TabOk s' → (∃ o, s'.heap.get? D = some o) → s₀.heap.get? D = none →
      (∀ y b s'', R D s'' y b → P i b → KpF (· = 50) fs s' s'' → TabOk s'' → Q' y s'') → wpAny (model prog w) A (eval elt (compE scope cl C env)) Q' E' s')
    (hfin : ∀ s' ws bs, LoopEnd R P (List.range cnt) (compE scope cl C env) cs D fs s₀ s' ws bs → fin s') :
    (∀ (E' : Value → Shared → Prop) (Q' : Value → Shared → Prop), Q' (.ref I) s₃ → wpAny (model prog w) A (pyIter (.ref I)) Q' E' s₃) ∧ ∃ J n₀, J n₀ s₃ ∧ ∀ n s, J n s → CompTurn prog w A (compE scope cl C env) (.Name x px) elt [] (.ref I) D fin J n s := by
  have hI3 : IsRangeIter s₃.heap I x0 cnt step := X.K.keep _ _ (fun q => q) hI
  refine ⟨fun E' Q' hq => wpAny_pyIter_rangeiter hI3 hq, fun m s' => ∃ (i : Nat) (ws : List Value) (bs : List β), i + m = cnt ∧ IsRangeIter s'.heap I (x0 + i * step) ((cnt : Int) - i) step ∧ LoopEnd R P (List.range i) (compE scope cl C env) cs D fs s₀ s' ws bs, cnt, ?_, ?_⟩
  · refine ⟨0, [], [], by omega, by simpa using hI3, X.ls, .nil, .nil, X.V, ?_, T.kp X.K (fun q => q) fun _ q => q.elim⟩
    exact ⟨(K02.trans X.K).mono fun _ q => q.elim, fun a _ o e => ⟨o.slots, (K02.trans X.K).keep _ _ (fun q => q) e⟩⟩
  · rintro m s' ⟨i, ws, bs, him, hI', L⟩
    intro E'
    have D0 : s₀.heap.get? D = none := K02.none (fun q => q) X.hD
    have cc0 : s₀.heap.get? cc = none := K02.none (fun q => q) hcc
    have ID : I ≠ D := ne_of_live ⟨_, hI⟩ X.hD
    have Icc : I ≠ cc := ne_of_live ⟨_, hI⟩ hcc
    have Ifs : I ∉ fs := fun q => by obtain ⟨o, e⟩ := hfs I q; rw [hI0] at e; cases e
    have Dfs : D ∉ fs := fun q => by obtain ⟨o, e⟩ := hfs D q; rw [D0] at e; cases e
    have ccfs : cc ∉ fs := fun q => by obtain ⟨o, e⟩ := hfs cc q; rw [cc0] at e; cases e
    obtain ⟨ps, e50, _⟩ := id L.T
    have I50 : I ≠ 50 := fun q => by
      have z : s'.heap.get? I = _ := hI'
      rw [q, e50] at z; cases z
    have D50 : D ≠ 50 := fun q => by
      obtain ⟨o, n, e, hc, _⟩ := L.ls
      rw [q, e50] at e; cases e; cases hc
    have cc50 : cc ≠ 50 := fun q => own_fields L.V e50 rfl (q ▸ hccO)
    have IO : ¬ Own (compE scope cl C env) I := own_fields L.V hI' rfl
    by_cases hi : cnt ≤ i
    · refine wpAny_pyNext_range_end hh hI' (by omega) fun h' hx => ?_
      dsimp only
      have k : Kp (· = I) s' { s' with heap := h', toks := s'.toks } := Kp.ext hx rfl
      have kf : KpF (· = I) fs s' { s' with heap := h', toks := s'.toks } := KpF.of k fun a ha q => Ifs (q ▸ ha)
      have hic : i = cnt := by omega
      rw [hic] at L
      refine hfin _ ws bs ⟨PL.kp k ID.symm L.ls, L.r.imp fun v b r => hR _ _ _ _ _ _ _ r kf fun a q => .inr fun o e => ?_, L.p, L.V.kp k fun a q o => IO (q ▸ o), L.K.trans (kf.mono fun a q => .inr (by rw [q]; exact hI0)), L.T.kf kf (fun q => I50 q.symm) n50 fun a q o e => ?_⟩
      · rw [q, hI'] at e; cases e; exact NS.fields rfl
      · rw [q, hI'] at e; cases e
        exact ⟨(fun fd z => by cases z), fun vs z c d r => by cases z; cases r⟩
    · refine wpAny_pyNext_range_item hI' (by omega) fun h' hI'' hs => ?_
      dsimp only
      have k : Kp (· = I) s' { s' with heap := h', toks := s'.toks + 1 } := Kp.same hs rfl
      have kf : KpF (· = I) fs s' { s' with heap := h', toks := s'.toks + 1 } := KpF.of k fun a ha q => Ifs (q ▸ ha)
      have nsI : ∀ a, a = I → ∀ o, s'.heap.get? a = some o → NS o := fun a q o e => by rw [q, hI'] at e; cases e; exact NS.fields rfl
      have nfI : ∀ a, a = I → ∀ o, s'.heap.get? a = some o → NotFn o := fun a q o e => by
        rw [q, hI'] at e; cases e
        exact ⟨(fun fd z => by cases z), fun vs z c d r => by cases z; cases r⟩
      generalize hS : ({ s' with heap := h', toks := s'.toks + 1 } : Shared) = s₁ at k kf ⊢
      have hI1 : IsRangeIter s₁.heap I (x0 + ((i + 1 : Nat) : Int) * step) ((cnt : Int) - ((i + 1 : Nat) : Int)) step := by
        rw [show x0 + ((i + 1 : Nat) : Int) * step = x0 + i * step + step by rw [Int.natCast_add, Int.add_mul]; omega, show (cnt : Int) - ((i + 1 : Nat) : Int) = (cnt : Int) - i - 1 by omega, ← hS]
        exact hI''
      clear hS hI''
      refine wpAny_of_eq rfl (wpAny_assign_Name (hput s₁ _ E' _ (L.V.kp k fun a q o => IO (q ▸ o)) fun s₄ V4 k4 => ?_))
      have kf4 : KpF (· = cc) fs s₁ s₄ := KpF.of k4 fun a ha q => ccfs (q ▸ ha)
      have V1 : Vs (compE scope cl C env) s₁.heap cs := L.V.kp k fun a q o => IO (q ▸ o)
      have ndcc : ∀ a, a = cc → ∀ o, s₁.heap.get? a = some o → Nd o := fun a q o e => Own.nd V1 a (q ▸ hccO) o e
      have kf04 : KpF (Xc s₀) fs s₀ s₄ := (L.K.trans (kf.mono fun a q => .inr (by rw [q]; exact hI0))).trans (kf4.mono fun a q => .inr (by rw [q]; exact cc0))
      have T1 : TabOk s₁ := L.T.kf kf (fun q => I50 q.symm) n50 nfI
      have T4 : TabOk s₄ := T1.kf kf4 (fun q => cc50 q.symm) n50 fun a q o e => (ndcc a q o e).notfn
      have r4 : All2 (R D s₄) ws bs := (L.r.imp fun v b r => hR _ _ _ _ _ _ _ r kf fun a q => .inr (nsI a q)).imp fun v b r => hR _ _ _ _ _ _ _ r kf4 fun a q => .inr fun o e => (ndcc a q o e).ns
      have ls4 : PL s₄.heap D ws := PL.kp k4 hDcc (PL.kp k ID.symm L.ls)
      simp only [List.forIn_nil]
      refine wpAny_pure ?_
      simp only [if_true]
      have hlen : ws.length = i := by rw [L.r.length, ← L.p.length]; simp
      refine helt i s₄ _ E' _ (by omega) V4 kf04 T4 (let ⟨o, _, e, _⟩ := ls4; ⟨o, e⟩) D0 fun y b s₅ ry pb kf5 T5 => ?_
      obtain ⟨ps4, e504, _⟩ := id T4
      have ls5 : PL s₅.heap D ws := PL.kf kf5 (fun q => D50 q) ls4
      have r5 : All2 (R D s₅) ws bs := r4.imp fun v b r => hR _ _ _ _ _ _ _ r kf5 fun a q => .inr fun o e => by rw [q, e504] at e; cases e; exact NS.fields rfl
      refine append_put ls5 (fun s₆ ls6 k6 => ?_) (by rw [sizeLine_eq]; omega)
      have kf6 : KpF (· = D) fs s₅ s₆ := KpF.of k6 fun a ha q => Dfs (q ▸ ha)
      have r6 : All2 (R D s₆) (ws ++ [y]) (bs ++ [b]) := (r5.snoc ry).imp fun v b r => hR _ _ _ _ _ _ _ r kf6 fun a q => .inl q
      have V5 : Vs (compE scope cl C env) s₅.heap ((x, .int (x0 + i * step) s'.toks) :: cs) := V4.kf kf5 fun a q o => own_fields V4 e504 rfl (q ▸ o)
      refine ⟨m - 1, by omega, i + 1, ws ++ [y], bs ++ [b], by omega, ?_, ls6, r6, by rw [List.range_succ]; exact L.p.snoc pb, (V5.kp k6 fun a q o => own_pl V5 ls5 (q ▸ o)).drop hcx, (kf04.trans (kf5.mono fun a q => .inl q)).trans (kf6.mono fun a q => .inr (by rw [q]; exact D0)), T5.kf kf6 (fun q => D50 q.symm) n50 fun a q o e => ?_⟩
      · exact k6.keep _ _ ID (kf5.k.keep _ _ (fun q => q.elim I50 Ifs) (k4.keep _ _ Icc hI1))
      · obtain ⟨o', n', e', _, _, d⟩ := ls5
        rw [q, e'] at e; cases e
        exact NotFn.seq d
end
end Mine
end

section
open PySem PySem.W PySem.Calls PyProof.Rows
namespace Mine

theorem NotFn.pl {h : Heap} {l : Addr} {xs : List Value} (x : PL h l xs) : ∀ a, a = l → ∀ o, h.get? a = some o → NotFn o := fun a q o e => by
  obtain ⟨o', n', e', _, _, d⟩ := x
  rw [q, e'] at e; cases e
  exact NotFn.seq d
theorem filter_range_succ (c : Nat → Bool) (i : Nat) : (List.range (i + 1)).filter c = (List.range i).filter c ++ (if c i then [i] else []) := by
  rw [List.range_succ, List.filter_append, List.filter_cons, List.filter_nil]

section
variable {prog : Program} {w : World} {A : Around} {E : Value → Shared → Prop} {s : Shared} {H : Heap} {β : Type}

/-- a loop over a list, with conditions -/
theorem list_loop {R : Addr → Shared → Value → β → Prop} {P : Nat → β → Prop} {env : Env} {scope : Scope} {cl : List (Str × Addr)} {cs : List (Str × Value)} {fs : List Addr} {x : Str} {px : Pos} {elt : PySem.Expr} {ifs : List PySem.Expr} {cnd : Nat → Bool} {I l D C : Addr} {vs : List Value} {s₀ s₂ s₃ : Shared} {fin : Shared → Prop}
    (hR : Stable R) (X : CompAt env scope cl cs D C s₂ s₃) (K02 : Kp Nil s₀ s₂) (hI0 : s₀.heap.get? I = none) (hl0 : s₀.heap.IsList l vs.toArray) (hI : LIt s₂.heap I l vs) (T : TabOk s₂) (hfs : ∀ a ∈ fs, ∃ o, s₀.heap.get? a = some o) (n50 : 50 ∉ fs) (hcnt : vs.length < 64) (hh : A.handled = none) (hcx : cs.lookup x = none)
    (hk : (compE scope cl C env).kindOf x = some .local) (hf : scope.kind = .function)
    (hcond : ∀ (i : Nat) (v : Value) (s' : Shared) (E' : Value → Shared → Prop) (Q' : Bool → Shared → Prop), vs[i]? = some v → Vs (compE scope cl C env) s'.heap ((x, v) :: cs) → KpF (Xc s₀) fs s₀ s' → TabOk s' → (∀ s'', KpF (· = 50) fs s' s'' → TabOk s'' → Q' (cnd i) s'') →
      wpAny (model prog w) A (forIn ifs true fun c r => if r = true then do let ok ← isTrue c (compE scope cl C env) (eval c (compE scope cl C env)); pure (ForInStep.yield ok) else pure (ForInStep.yield r)) Q' E' s')
    (helt : ∀ (i : Nat) (v : Value) (s' : Shared) (E' : Value → Shared → Prop) (Q' : Value → Shared → Prop), vs[i]? = some v → cnd i = true → Vs (compE scope cl C env) s'.heap ((x, v) :: cs) → KpF (Xc s₀) fs s₀ s' → TabOk s' → (∃ o, s'.heap.get? D = some o) → s₀.heap.get? D = none →
      (∀ y b s'', R D s'' y b → P i b → Kp Nil s' s'' → Q' y s'') → wpAny (model prog w) A (eval elt (compE scope cl C env)) Q' E' s')
    (hfin : ∀ s' ws bs, LoopEnd R P ((List.range vs.length).filter cnd) (compE scope cl C env) cs D fs s₀ s' ws bs → fin s') :
    (∀ (E' : Value → Shared → Prop) (Q' : Value → Shared → Prop), Q' (.ref I) s₃ → wpAny (model prog w) A (pyIter (.ref I)) Q' E' s₃) ∧ ∃ J n₀, J n₀ s₃ ∧ ∀ n s, J n s → CompTurn prog w A (compE scope cl C env) (.Name x px) elt ifs (.ref I) D fin J n s := by
  have hI3 : LIt s₃.heap I l vs := LIt.kp X.K (fun q => q) (fun q => q) hI
  refine ⟨fun E' Q' hq => iter_li hI3 hq, fun m s' => ∃ (i : Nat) (ws : List Value) (bs : List β), i + m = vs.length ∧ LIt s'.heap I l (vs.drop i) ∧ LoopEnd R P ((List.range i).filter cnd) (compE scope cl C env) cs D fs s₀ s' ws bs, vs.length, ?_, ?_⟩
  · refine ⟨0, [], [], by omega, by simpa using hI3, X.ls, .nil, .nil, X.V, ?_, T.kp X.K (fun q => q) fun _ q => q.elim⟩
    exact ⟨(K02.trans X.K).mono fun _ q => q.elim, fun a _ o e => ⟨o.slots, (K02.trans X.K).keep _ _ (fun q => q) e⟩⟩
  · rintro m s' ⟨i, ws, bs, him, hI', L⟩
    intro E'
    have D0 : s₀.heap.get? D = none := K02.none (fun q => q) X.hD
    have C0 : s₀.heap.get? C = none := K02.none (fun q => q) X.hC
    obtain ⟨oI2, eI2, _⟩ := hI.obj
    have ID : I ≠ D := ne_of_live ⟨_, eI2⟩ X.hD
    have IC : I ≠ C := ne_of_live ⟨_, eI2⟩ X.hC
    have lO : ∃ o, s₂.heap.get? l = some o := let ⟨o, e, _⟩ := hl0; ⟨o, K02.keep _ _ (fun q => q) e⟩
    have lD : l ≠ D := ne_of_live lO X.hD
    have lC : l ≠ C := ne_of_live lO X.hC
    have lI : l ≠ I := ne_of_live (let ⟨o, e, _⟩ := hl0; ⟨o, e⟩) hI0
    have Ifs : I ∉ fs := fun q => by obtain ⟨o, e⟩ := hfs I q; rw [hI0] at e; cases e
    have Dfs : D ∉ fs := fun q => by obtain ⟨o, e⟩ := hfs D q; rw [D0] at e; cases e
    have Cfs : C ∉ fs := fun q => by obtain ⟨o, e⟩ := hfs C q; rw [C0] at e; cases e
    obtain ⟨ps, e50, _⟩ := id L.T
    obtain ⟨oI, xI, eI, dI⟩ := hI'.fields
    have hIo := hI'.obj
    have I50 : I ≠ 50 := fun q => by
      obtain ⟨o, e, hc⟩ := hIo
      rw [q, e50] at e; cases e; cases hc
    have D50 : D ≠ 50 := fun q => by
      obtain ⟨o, n, e, hc, _⟩ := L.ls
      rw [q, e50] at e; cases e; cases hc
    have C50 : C ≠ 50 := fun q => own_fields L.V e50 rfl (.inl q.symm)
    have IO : ¬ Own (compE scope cl C env) I := own_li L.V hI'
    have nsI : ∀ a, a = I → ∀ o, s'.heap.get? a = some o → NS o := fun a q o e => by rw [q, eI] at e; cases e; exact NS.fields dI
    have nfI : ∀ a, a = I → ∀ o, s'.heap.get? a = some o → NotFn o := fun a q o e => NotFn.li hI' (q ▸ e)
    by_cases hi : vs.length ≤ i
    · rw [List.drop_of_length_le hi] at hI'
      refine next_end hh hI' fun s₁ li1 k => ?_
      dsimp only
      have kf : KpF (· = I) fs s' s₁ := KpF.of k fun a ha q => Ifs (q ▸ ha)
      have hic : i = vs.length := by omega
      rw [hic] at L
      exact hfin _ ws bs ⟨PL.kp k ID.symm L.ls, L.r.imp fun v b r => hR _ _ _ _ _ _ _ r kf fun a q => .inr (nsI a q), L.p, L.V.kp k fun a q o => IO (q ▸ o), L.K.trans (kf.mono fun a q => .inr (by rw [q]; exact hI0)), L.T.kf kf (fun q => I50 q.symm) n50 nfI⟩
    · have hiv : vs[i]? = some vs[i] := List.getElem?_eq_getElem (by omega)
      rw [List.drop_eq_getElem_cons (by omega)] at hI'
      generalize vs[i] = v at hiv hI'
      refine next_item hI' fun s₁ li1 k => ?_
      dsimp only
      have kf : KpF (· = I) fs s' s₁ := KpF.of k fun a ha q => Ifs (q ▸ ha)
      have V1 : Vs (compE scope cl C env) s₁.heap cs := L.V.kp k fun a q o => IO (q ▸ o)
      refine wpAny_of_eq rfl (wpAny_assign_Name (V1.putL hk (fun s₄ V4 k4 => ?_) hf))
      have k4 : Kp (· = C) s₁ s₄ := k4
      have kf4 : KpF (· = C) fs s₁ s₄ := KpF.of k4 fun a ha q => Cfs (q ▸ ha)
      have ndC : ∀ a, a = C → ∀ o, s₁.heap.get? a = some o → Nd o := fun a q o e => Own.nd V1 a (.inl q) o e
      have kf04 : KpF (Xc s₀) fs s₀ s₄ := (L.K.trans (kf.mono fun a q => .inr (by rw [q]; exact hI0))).trans (kf4.mono fun a q => .inr (by rw [q]; exact C0))
      have T1 : TabOk s₁ := L.T.kf kf (fun q => I50 q.symm) n50 nfI
      have T4 : TabOk s₄ := T1.kf kf4 (fun q => C50 q.symm) n50 fun a q o e => (ndC a q o e).notfn
      have r4 : All2 (R D s₄) ws bs := (L.r.imp fun v b r => hR _ _ _ _ _ _ _ r kf fun a q => .inr (nsI a q)).imp fun v b r => hR _ _ _ _ _ _ _ r kf4 fun a q => .inr fun o e => (ndC a q o e).ns
      have ls4 : PL s₄.heap D ws := PL.kp k4 X.DC (PL.kp k ID.symm L.ls)
      have li4 : LIt s₄.heap I l (vs.drop (i + 1)) := LIt.kp k4 IC lC li1
      refine hcond i v s₄ E' _ hiv V4 kf04 T4 fun s₅ kf5 T5 => ?_
      obtain ⟨ps4, e504, _⟩ := id T4
      have V5 := V4.kf kf5 fun a q o => own_fields V4 e504 rfl (q ▸ o)
      have r5 : All2 (R D s₅) ws bs := r4.imp fun v b r => hR _ _ _ _ _ _ _ r kf5 fun a q => .inr fun o e => by rw [q, e504] at e; cases e; exact NS.fields rfl
      have ls5 : PL s₅.heap D ws := PL.kf kf5 (fun q => D50 q) ls4
      have kf05 : KpF (Xc s₀) fs s₀ s₅ := kf04.trans (kf5.mono fun a q => .inl q)
      have l50 : l ≠ 50 := fun q => by
        obtain ⟨ps2, e2, _⟩ := id T
        obtain ⟨o, e, hc, _⟩ := hl0
        rw [q] at e
        have := K02.keep _ _ (fun q => q) e
        rw [e2] at this; cases this; cases hc
      have li5 : LIt s₅.heap I l (vs.drop (i + 1)) := LIt.kf kf5 (fun q => I50 q) (fun q => l50 q) li4
      cases hc : cnd i with
      | false =>
        rw [if_neg (by simp)]
        refine ⟨m - 1, by omega, i + 1, ws, bs, by omega, li5, ls5, r5, ?_, V5.drop hcx, kf05, T5⟩
        rw [filter_range_succ, hc]; simpa using L.p
      | true =>
        rw [if_pos rfl]
        have hlen : ws.length ≤ i := by
          rw [L.r.length, ← L.p.length]
          exact Nat.le_trans (List.length_filter_le _ _) (by simp)
        refine helt i v s₅ E' _ hiv hc V5 kf05 T5 (let ⟨o, _, e, _⟩ := ls5; ⟨o, e⟩) D0 fun y b s₆ ry pb k6 => ?_
        have kf6 : KpF Nil fs s₅ s₆ := KpF.of k6 fun _ _ q => q
        have ls6 : PL s₆.heap D ws := PL.kp k6 (fun q => q) ls5
        have r6 : All2 (R D s₆) ws bs := r5.imp fun v b r => hR _ _ _ _ _ _ _ r kf6 fun a q => q.elim
        have V6 := V5.kp k6 fun _ q => q.elim
        have T6 : TabOk s₆ := T5.kp k6 (fun q => q) fun _ q => q.elim
        refine append_put ls6 (fun s₇ ls7 k7 => ?_) (by rw [sizeLine_eq]; omega)
        have kf7 : KpF (· = D) fs s₆ s₇ := KpF.of k7 fun a ha q => Dfs (q ▸ ha)
        have r7 : All2 (R D s₇) (ws ++ [y]) (bs ++ [b]) := (r6.snoc ry).imp fun v b r => hR _ _ _ _ _ _ _ r kf7 fun a q => .inl q
        have k57 : Kp (· = D) s₅ s₇ := (k6.mono fun _ q => q.elim).trans k7
        refine ⟨m - 1, by omega, i + 1, ws ++ [y], bs ++ [b], by omega, LIt.kp k57 ID lD li5, ls7, r7, ?_, (V6.kp k7 fun a q o => own_pl V6 ls6 (q ▸ o)).drop hcx, (kf05.trans (kf6.mono fun _ q => q.elim)).trans (kf7.mono fun a q => .inr (by rw [q]; exact D0)), T6.kf kf7 (fun q => D50 q.symm) n50 (NotFn.pl ls6)⟩
        rw [filter_range_succ, hc]; exact L.p.snoc pb
end
end Mine
end

section
open PySem PySem.W PySem.Calls PyProof.Rows
namespace Mine

/-- what a statement of law may turn, seen from s -/
def Xl (env : Env) (s : Shared) (a : Addr) : Prop := Own env a ∨ a = 50 ∨ s.heap.get? a = none
/-- a comprehension's list -/
structure Got {β : Type} (R : Addr → Shared → Value → β → Prop) (P : Nat → β → Prop) (idx : List Nat) (D : Addr) (s s' : Shared) (ws : List Value) (bs : List β) : Prop where
  ls : PL s'.heap D ws
  r : All2 (R D s') ws bs
  p : All2 P idx bs
  T : TabOk s'
  hD : s.heap.get? D = none

section
variable {prog : Program} {w : World} {A : Around} {E : Value → Shared → Prop} {s : Shared} {H : Heap} {β : Type} {R : Addr → Shared → Value → β → Prop} {P : Nat → β → Prop}

theorem LoopEnd.got {idx : List Nat} {env : Env} {scope : Scope} {cl : List (Str × Addr)} {cs : List (Str × Value)} {D C : Addr} {fs : List Addr} {s₀ s₂ s₃ s₁ s' : Shared} {ws : List Value} {bs : List β} (hR : Stable R) (X : CompAt env scope cl cs D C s₂ s₃) (K02 : Kp Nil s₀ s₂) (hfs : ∀ a ∈ fs, ∃ o, s₀.heap.get? a = some o) (n50 : 50 ∉ fs)
    (L : LoopEnd R P idx (compE scope cl C env) cs D fs s₀ s₁ ws bs) (k : Kp (· = C) s₁ s') : Got R P idx D s₀ s' ws bs ∧ KpF (Xc s₀) fs s₀ s' := by
  have D0 : s₀.heap.get? D = none := K02.none (fun q => q) X.hD
  have C0 : s₀.heap.get? C = none := K02.none (fun q => q) X.hC
  have Cfs : C ∉ fs := fun q => by obtain ⟨o, e⟩ := hfs C q; rw [C0] at e; cases e
  have kf : KpF (· = C) fs s₁ s' := KpF.of k fun a ha q => Cfs (q ▸ ha)
  have nd : ∀ a, a = C → ∀ o, s₁.heap.get? a = some o → Nd o := fun a q o e => Own.nd L.V a (.inl q) o e
  obtain ⟨ps, e50, _⟩ := id L.T
  have C50 : C ≠ 50 := fun q => own_fields L.V e50 rfl (.inl q.symm)
  exact ⟨⟨PL.kp k X.DC L.ls, L.r.imp fun v b r => hR _ _ _ _ _ _ _ r kf fun a q => .inr fun o e => (nd a q o e).ns, L.p, L.T.kf kf (fun q => C50 q.symm) n50 fun a q o e => (nd a q o e).notfn, D0⟩, L.K.trans (kf.mono fun a q => .inr (by rw [q]; exact C0))⟩

theorem own_xc {env : Env} {bs : List (Str × Value)} (V : Vs env s.heap bs) (T : TabOk s) : ∀ a, Xc s a → ¬ Own env a := fun a q o => by
  rcases q with q | q
  · obtain ⟨ps, e50, _⟩ := T
    exact own_fields V e50 rfl (q ▸ o)
  · exact own_fresh V q o

/-- the store at the end of a comprehension -/
theorem put_end {idx : List Nat} {env : Env} {scope : Scope} {cl : List (Str × Addr)} {bs cs : List (Str × Value)} {D C : Addr} {s₂ s₃ s₁ : Shared} {ws : List Value} {rs : List β} {y : Str} {Q : Flow → Shared → Prop} (hR : Stable R) (V : Vs env s.heap bs) (T : TabOk s) (X : CompAt env scope cl cs D C s₂ s₃) (K02 : Kp Nil s s₂) (hfs : ∀ a ∈ [env.locals], ∃ o, s.heap.get? a = some o) (n50 : 50 ∉ [env.locals])
    (hky : env.kindOf y = some .local) (hkf : env.scope.kind = .function) (L : LoopEnd R P idx (compE scope cl C env) cs D [env.locals] s s₁ ws rs)
    (h : ∀ D s' ws rs, Got R P idx D s s' ws rs → Vs env s'.heap ((y, .ref D) :: bs) → Kp (Xl env s) s s' → Q .next s') :
    wpAny (model prog w) A (storeName env y (.ref D)) (fun _ s₁' => (∃ m, s₁'.heap.Ns C m) ∧ ∀ s', Kp (· = C) s₁' s' → Q .next s') E s₁ := by
  have D0 : s.heap.get? D = none := K02.none (fun q => q) X.hD
  have C0 : s.heap.get? C = none := K02.none (fun q => q) X.hC
  have V1 : Vs env s₁.heap bs := V.kf L.K (own_xc V T)
  have LC : env.locals ≠ C := fun q => own_fresh V C0 (.inl q.symm)
  have LD : D ≠ env.locals := fun q => own_fresh V D0 (.inl q)
  obtain ⟨ps, e50, _⟩ := id L.T
  have L50 : env.locals ≠ 50 := fun q => n50 (by rw [q]; exact .head _)
  have C50 : C ≠ 50 := fun q => own_fields L.V e50 rfl (.inl q.symm)
  refine V1.putL hky (fun s₄ V4 k4 => ?_) hkf
  have nd1 : ∀ a, a = env.locals → ∀ o, s₁.heap.get? a = some o → Nd o := fun a q o e => Own.nd V1 a (.inl q) o e
  have ndC : ∀ a, a = C → ∀ o, s₁.heap.get? a = some o → Nd o := fun a q o e => Own.nd L.V a (.inl q) o e
  have nC4 : ∃ m, s₄.heap.Ns C m := let ⟨m, a, _⟩ := L.V.ns; ⟨m, Ns.kp k4 (fun q => LC q.symm) a⟩
  refine ⟨nC4, fun s' k' => ?_⟩
  have ndC4 : ∀ a, a = C → ∀ o, s₄.heap.get? a = some o → Nd o := fun a q o e => by
    obtain ⟨m, o', es, ep, e', d, _⟩ := nC4
    rw [q, e'] at e; cases e; exact .inl ⟨es, ep, d⟩
  have kf4 : KpF (· = env.locals) [] s₁ s₄ := KpF.of k4 fun _ h => nomatch h
  have kf' : KpF (· = C) [] s₄ s' := KpF.of k' fun _ h => nomatch h
  refine h D s' ws rs ⟨PL.kp k' X.DC (PL.kp k4 LD L.ls), ?_, L.p, ?_, D0⟩ (V4.kp k' fun a q o => own_fresh V C0 (q ▸ o)) ?_
  · exact (L.r.imp fun v b r => hR _ _ _ _ _ _ _ r kf4 fun a q => .inr fun o e => (nd1 a q o e).ns).imp fun v b r => hR _ _ _ _ _ _ _ r kf' fun a q => .inr fun o e => (ndC4 a q o e).ns
  · exact (L.T.kf kf4 (fun q => L50 q.symm) (fun h => nomatch h) fun a q o e => (nd1 a q o e).notfn).kf kf' (fun q => C50 q.symm) (fun h => nomatch h) fun a q o e => (ndC4 a q o e).notfn
  · refine ((L.K.k.mono (Y := Xl env s) fun a q => ?_).trans (k4.mono fun a q => .inl (.inl q))).trans (k'.mono fun a q => .inr (.inr (by rw [q]; exact C0)))
    rcases q with (q | q) | q
    · exact .inr (.inl q)
    · exact .inr (.inr q)
    · exact .inl (.inl (List.mem_singleton.mp q))

/-- [elt for x in range(..)] -/
theorem range_val {env : Env} {bs cs : List (Str × Value)} {scope : Scope} {cl : List (Str × Addr)} {fs : List Addr} {x : Str} {px pos : Pos} {elt iter : PySem.Expr} {x0 step : Int} {cnt : Nat} {Q : Value → Shared → Prop}
    (hR : Stable R) (V : Vs env s.heap bs) (T : TabOk s) (hfs : ∀ a ∈ fs, ∃ o, s.heap.get? a = some o) (n50 : 50 ∉ fs) (hh : A.handled = none) (hcnt : cnt < 64) (hclos : closureFor scope env = pure cl) (hcl : ClOk env cl) (hcs : FreeOk scope cl env bs cs) (hcx : cs.lookup x = none)
    (hiter : ∀ (Q' : Value → Shared → Prop), (∀ I s₂, IsRangeIter s₂.heap I x0 cnt step → s.heap.get? I = none → Kp Nil s s₂ → Q' (.ref I) s₂) → wpAny (model prog w) A (eval iter env) (fun xv s₁ => wpAny (model prog w) A (pyIter xv) Q' E s₁) E s)
    (ccf : Addr → Addr) (hccO : ∀ C, Own (compE scope cl C env) (ccf C)) (hccD : ∀ C, C ≤ ccf C)
    (hput : ∀ (C : Addr) (s' : Shared) (v : Value) (E' : Value → Shared → Prop) (Q' : Unit → Shared → Prop), Vs (compE scope cl C env) s'.heap cs → (∀ s'', Vs (compE scope cl C env) s''.heap ((x, v) :: cs) → Kp (· = ccf C) s' s'' → Q' () s'') → wpAny (model prog w) A (storeName (compE scope cl C env) x v) Q' E' s')
    (helt : ∀ (D C : Addr) (i : Nat) (s' : Shared) (t : Tok) (E' : Value → Shared → Prop) (Q' : Value → Shared → Prop), i < cnt → Vs (compE scope cl C env) s'.heap ((x, .int (x0 + i * step) t) :: cs) → KpF (Xc s) fs s s' → TabOk s' → (∃ o, s'.heap.get? D = some o) → s.heap.get? D = none →
      (∀ y b s'', R D s'' y b → P i b → KpF (· = 50) fs s' s'' → TabOk s'' → Q' y s'') → wpAny (model prog w) A (eval elt (compE scope cl C env)) Q' E' s')
    (h : ∀ D s' ws rs, Got R P (List.range cnt) D s s' ws rs → KpF (Xc s) fs s s' → Q (.ref D) s')
    (hkind : scope.kind = .function := by rfl) (hnames : (scope.names.all fun x => x.2 != .local || scope.names.lookup x.1 == some .local) = true := by rfl) (hs : ∀ x, foldedSetIterable iter env x = pure x := by intro _; rfl) :
    wpAny (model prog w) A (eval (.ListComp elt [⟨.Name x px, iter, [], 0⟩] scope pos) env) Q E s := by
  refine comp_eval (cs := cs) hclos hcl (hiter _ fun I s₂ hI hI0 k => ?_) hkind hnames hs
  refine ⟨bs, V.kp k fun _ q => q.elim, hcs, fun D C s₃ X => ?_⟩
  have hccN : s₂.heap.get? (ccf C) = none := get_fresh (Nat.le_trans X.top (hccD C))
  have hDcc : D ≠ ccf C := fun q => by
    rcases X.own _ (hccO C) with z | z
    · exact own_fresh (V.kp k fun _ q => q.elim) X.hD (q ▸ z)
    · exact z.2 q.symm
  exact range_loop hR X k hI0 hI (T.kp k (fun q => q) fun _ q => q.elim) hfs n50 hcnt hh hcx hccN (hccO C) hDcc (hput C) (helt D C) fun s₁ ws rs L => ⟨let ⟨m, a, _⟩ := L.V.ns; ⟨m, a⟩, fun s' k' => let ⟨g, kk⟩ := L.got hR X k hfs n50 k'; h D s' ws rs g kk⟩

/-- y = [elt for x in range(..)], y a plain local -/
theorem range_put {env : Env} {bs cs : List (Str × Value)} {scope : Scope} {cl : List (Str × Addr)} {x y : Str} {px py pos spos : Pos} {elt iter : PySem.Expr} {x0 step : Int} {cnt : Nat} {Q : Flow → Shared → Prop}
    (hsw : swapsWith (.ListComp elt [⟨.Name x px, iter, [], 0⟩] scope pos) (some (.Name y py)) spos.line env = pure true)
    (hR : Stable R) (V : Vs env s.heap bs) (T : TabOk s) (hh : A.handled = none) (hcnt : cnt < 64) (hclos : closureFor scope env = pure cl) (hcl : ClOk env cl) (hcs : FreeOk scope cl env bs cs) (hcx : cs.lookup x = none) (hky : env.kindOf y = some .local) (hkf : env.scope.kind = .function)
    (hiter : ∀ (Q' : Value → Shared → Prop), (∀ I s₂, IsRangeIter s₂.heap I x0 cnt step → s.heap.get? I = none → Kp Nil s s₂ → Q' (.ref I) s₂) → wpAny (model prog w) A (eval iter env) (fun xv s₁ => wpAny (model prog w) A (pyIter xv) Q' E s₁) E s)
    (ccf : Addr → Addr) (hccO : ∀ C, Own (compE scope cl C env) (ccf C)) (hccD : ∀ C, C ≤ ccf C)
    (hput : ∀ (C : Addr) (s' : Shared) (v : Value) (E' : Value → Shared → Prop) (Q' : Unit → Shared → Prop), Vs (compE scope cl C env) s'.heap cs → (∀ s'', Vs (compE scope cl C env) s''.heap ((x, v) :: cs) → Kp (· = ccf C) s' s'' → Q' () s'') → wpAny (model prog w) A (storeName (compE scope cl C env) x v) Q' E' s')
    (helt : ∀ (D C : Addr) (i : Nat) (s' : Shared) (t : Tok) (E' : Value → Shared → Prop) (Q' : Value → Shared → Prop), i < cnt → Vs (compE scope cl C env) s'.heap ((x, .int (x0 + i * step) t) :: cs) → KpF (Xc s) [env.locals] s s' → TabOk s' → (∃ o, s'.heap.get? D = some o) → s.heap.get? D = none →
      (∀ y b s'', R D s'' y b → P i b → KpF (· = 50) [env.locals] s' s'' → TabOk s'' → Q' y s'') → wpAny (model prog w) A (eval elt (compE scope cl C env)) Q' E' s')
    (h : ∀ D s' ws rs, Got R P (List.range cnt) D s s' ws rs → Vs env s'.heap ((y, .ref D) :: bs) → Kp (Xl env s) s s' → Q .next s')
    (hkind : scope.kind = .function := by rfl) (hnames : (scope.names.all fun x => x.2 != .local || scope.names.lookup x.1 == some .local) = true := by rfl) (hs : ∀ x, foldedSetIterable iter env x = pure x := by intro _; rfl) :
    wpAny (model prog w) A (exec (.Assign [.Name y py] (.ListComp elt [⟨.Name x px, iter, [], 0⟩] scope pos) spos) env) Q E s := by
  have hL : ∃ o, s.heap.get? env.locals = some o := by obtain ⟨m, ⟨o, _, _, e, _⟩, _⟩ := V.ns; exact ⟨o, e⟩
  have hfs : ∀ a ∈ [env.locals], ∃ o, s.heap.get? a = some o := fun a ha => by rw [List.mem_singleton.mp ha]; exact hL
  have n50 : 50 ∉ [env.locals] := fun q => own_xc V T 50 (.inl rfl) (.inl (List.mem_singleton.mp q))
  refine comp_assign (cs := cs) hsw hclos hcl (hiter _ fun I s₂ hI hI0 k => ?_) hkind hnames hs
  refine ⟨bs, V.kp k fun _ q => q.elim, hcs, fun D C s₃ X => ?_⟩
  have hccN : s₂.heap.get? (ccf C) = none := get_fresh (Nat.le_trans X.top (hccD C))
  have hDcc : D ≠ ccf C := fun q => by
    rcases X.own _ (hccO C) with z | z
    · exact own_fresh (V.kp k fun _ q => q.elim) X.hD (q ▸ z)
    · exact z.2 q.symm
  refine range_loop hR X k hI0 hI (T.kp k (fun q => q) fun _ q => q.elim) hfs n50 hcnt hh hcx hccN (hccO C) hDcc (hput C) (helt D C) fun s₁ ws rs L => ?_
  exact put_end hR V T X k hfs n50 hky hkf L h

/-- y = [elt for x in l if ..], y a plain local -/
theorem list_put' {env : Env} {bs cs : List (Str × Value)} {scope : Scope} {cl : List (Str × Addr)} {x y : Str} {px py pos spos : Pos} {elt iter : PySem.Expr} {ifs : List PySem.Expr} {cnd : Nat → Bool} {l : Addr} {vs : List Value} {Q : Flow → Shared → Prop}
    (hsw : swapsWith (.ListComp elt [⟨.Name x px, iter, ifs, 0⟩] scope pos) (some (.Name y py)) spos.line env = pure true)
    (hR : Stable R) (V : Vs env s.heap bs) (T : TabOk s) (hh : A.handled = none) (hl : s.heap.IsList l vs.toArray) (hcnt : vs.length < 64) (hclos : closureFor scope env = pure cl) (hcl : ClOk env cl) (hcs : FreeOk scope cl env bs cs) (hcx : cs.lookup x = none) (hky : env.kindOf y = some .local) (hkf : env.scope.kind = .function)
    (hiter : ∀ (Q' : Value → Shared → Prop), Q' (.ref l) s → wpAny (model prog w) A (eval iter env) Q' E s)
    (hk : ∀ C, (compE scope cl C env).kindOf x = some .local)
    (hcond : ∀ (C : Addr) (i : Nat) (v : Value) (s' : Shared) (E' : Value → Shared → Prop) (Q' : Bool → Shared → Prop), vs[i]? = some v → Vs (compE scope cl C env) s'.heap ((x, v) :: cs) → KpF (Xc s) [env.locals] s s' → TabOk s' → (∀ s'', KpF (· = 50) [env.locals] s' s'' → TabOk s'' → Q' (cnd i) s'') →
      wpAny (model prog w) A (forIn ifs true fun c r => if r = true then do let ok ← isTrue c (compE scope cl C env) (eval c (compE scope cl C env)); pure (ForInStep.yield ok) else pure (ForInStep.yield r)) Q' E' s')
    (helt : ∀ (D C : Addr) (i : Nat) (v : Value) (s' : Shared) (E' : Value → Shared → Prop) (Q' : Value → Shared → Prop), vs[i]? = some v → cnd i = true → Vs (compE scope cl C env) s'.heap ((x, v) :: cs) → KpF (Xc s) [env.locals] s s' → TabOk s' → (∃ o, s'.heap.get? D = some o) → s.heap.get? D = none →
      (∀ y b s'', R D s'' y b → P i b → Kp Nil s' s'' → Q' y s'') → wpAny (model prog w) A (eval elt (compE scope cl C env)) Q' E' s')
    (h : ∀ D s' ws rs, Got R P ((List.range vs.length).filter cnd) D s s' ws rs → Vs env s'.heap ((y, .ref D) :: bs) → Kp (Xl env s) s s' → Q .next s')
    (hkind : scope.kind = .function := by rfl) (hnames : (scope.names.all fun x => x.2 != .local || scope.names.lookup x.1 == some .local) = true := by rfl) (hs : ∀ x, foldedSetIterable iter env x = pure x := by intro _; rfl) :
    wpAny (model prog w) A (exec (.Assign [.Name y py] (.ListComp elt [⟨.Name x px, iter, ifs, 0⟩] scope pos) spos) env) Q E s := by
  have hL : ∃ o, s.heap.get? env.locals = some o := by obtain ⟨m, ⟨o, _, _, e, _⟩, _⟩ := V.ns; exact ⟨o, e⟩
  have hfs : ∀ a ∈ [env.locals], ∃ o, s.heap.get? a = some o := fun a ha => by rw [List.mem_singleton.mp ha]; exact hL
  have n50 : 50 ∉ [env.locals] := fun q => own_xc V T 50 (.inl rfl) (.inl (List.mem_singleton.mp q))
  refine comp_assign (cs := cs) hsw hclos hcl (hiter _ (iter_list hl fun I s₂ hI0 hI k => ?_)) hkind hnames hs
  refine ⟨bs, V.kp k fun _ q => q.elim, hcs, fun D C s₃ X => ?_⟩
  refine list_loop hR X k hI0 hl hI (T.kp k (fun q => q) fun _ q => q.elim) hfs n50 hcnt hh hcx (hk C) hkind (hcond C) (helt D C) fun s₁ ws rs L => ?_
  exact put_end hR V T X k hfs n50 hky hkf L h

/-- [elt for x in l if ..] -/
theorem list_val {env : Env} {bs cs : List (Str × Value)} {scope : Scope} {cl : List (Str × Addr)} {fs : List Addr} {x : Str} {px pos : Pos} {elt iter : PySem.Expr} {ifs : List PySem.Expr} {cnd : Nat → Bool} {l : Addr} {vs : List Value} {Q : Value → Shared → Prop}
    (hR : Stable R) (V : Vs env s.heap bs) (T : TabOk s) (hfs : ∀ a ∈ fs, ∃ o, s.heap.get? a = some o) (n50 : 50 ∉ fs) (hh : A.handled = none) (hl : s.heap.IsList l vs.toArray) (hcnt : vs.length < 64) (hclos : closureFor scope env = pure cl) (hcl : ClOk env cl) (hcs : FreeOk scope cl env bs cs) (hcx : cs.lookup x = none)
    (hiter : ∀ (Q' : Value → Shared → Prop), Q' (.ref l) s → wpAny (model prog w) A (eval iter env) Q' E s)
    (hk : ∀ C, (compE scope cl C env).kindOf x = some .local)
    (hcond : ∀ (C : Addr) (i : Nat) (v : Value) (s' : Shared) (E' : Value → Shared → Prop) (Q' : Bool → Shared → Prop), vs[i]? = some v → Vs (compE scope cl C env) s'.heap ((x, v) :: cs) → KpF (Xc s) fs s s' → TabOk s' → (∀ s'', KpF (· = 50) fs s' s'' → TabOk s'' → Q' (cnd i) s'') →
      wpAny (model prog w) A (forIn ifs true fun c r => if r = true then do let ok ← isTrue c (compE scope cl C env) (eval c (compE scope cl C env)); pure (ForInStep.yield ok) else pure (ForInStep.yield r)) Q' E' s')
    (helt : ∀ (D C : Addr) (i : Nat) (v : Value) (s' : Shared) (E' : Value → Shared → Prop) (Q' : Value → Shared → Prop), vs[i]? = some v → cnd i = true → Vs (compE scope cl C env) s'.heap ((x, v) :: cs) → KpF (Xc s) fs s s' → TabOk s' → (∃ o, s'.heap.get? D = some o) → s.heap.get? D = none →
      (∀ y b s'', R D s'' y b → P i b → Kp Nil s' s'' → Q' y s'') → wpAny (model prog w) A (eval elt (compE scope cl C env)) Q' E' s')
    (h : ∀ D s' ws rs, Got R P ((List.range vs.length).filter cnd) D s s' ws rs → KpF (Xc s) fs s s' → Q (.ref D) s')
    (hkind : scope.kind = .function := by rfl) (hnames : (scope.names.all fun x => x.2 != .local || scope.names.lookup x.1 == some .local) = true := by rfl) (hs : ∀ x, foldedSetIterable iter env x = pure x := by intro _; rfl) :
    wpAny (model prog w) A (eval (.ListComp elt [⟨.Name x px, iter, ifs, 0⟩] scope pos) env) Q E s := by
  refine comp_eval (cs := cs) hclos hcl (hiter _ (iter_list hl fun I s₂ hI0 hI k => ?_)) hkind hnames hs
  refine ⟨bs, V.kp k fun _ q => q.elim, hcs, fun D C s₃ X => ?_⟩
  exact list_loop hR X k hI0 hl hI (T.kp k (fun q => q) fun _ q => q.elim) hfs n50 hcnt hh hcx (hk C) hkind (hcond C) (helt D C) fun s₁ ws rs L => ⟨let ⟨m, a, _⟩ := L.V.ns; ⟨m, a⟩, fun s' k' => let ⟨g, kk⟩ := L.got hR X k hfs n50 k'; h D s' ws rs g kk⟩
end
end Mine
end

section
open PySem PySem.W PySem.Calls PyProof.Rows
namespace Mine

theorem ints_of_all2 {D : Addr} {s : Shared} {ws : List Value} {rs : List Int} (h : All2 (RInt D s) ws rs) : IntsAre ws rs := by
  induction h with
  | nil => exact .nil
  | cons r _ ih => obtain ⟨t, rfl⟩ := r; exact .cons _ t ih

section
variable {prog : Program} {w : World} {A : Around} {E : Value → Shared → Prop} {s : Shared} {H : Heap}

theorem sum_call {l : Addr} {vs : List Value} {ns : List Int} {Q : Value → Shared → Prop} (hh : A.handled = none) (hl : s.heap.IsList l vs.toArray) (hi : IntsAre vs ns) (h : ∀ s' t, Kp Nil s s' → Q (.int ns.sum t) s') : wpAny (model prog w) A (call (.builtin "sum") [.ref l]) Q E s := by
  obtain ⟨xs, hx⟩ := hi.allInts.items
  have hl' : s.heap.IsList l (intItems xs) := hx ▸ hl
  refine sum_intListG hh hl' fun h' tk t' hk => ?_
  have e1 : ns = xs.toList.map (·.1) := by
    rw [← nums_intItems, ← hx]
    exact (show numsOf vs.toArray.toList = ns from hi.numsOf).symm
  have e2 : preSum (numAt xs) xs.size = ns.sum := by
    rw [preSum_eq, List.take_of_length_le (by simp), e1]
  rw [e2]
  exact h _ t' ⟨fun b o _ e => hk b o e, rfl, rfl⟩
theorem min_call {a b : Int} {t u : Tok} {Q : Value → Shared → Prop} (hh : A.handled = none) (h : ∀ s' t, Kp Nil s s' → Q (.int (min a b) t) s') : wpAny (model prog w) A (call (.builtin "min") [.int a t, .int b u]) Q E s := by
  refine min_two_ints hh fun h' tk hk => ?_
  have k : Kp Nil s { s with heap := h', toks := tk } := ⟨fun b o _ e => hk b o e, rfl, rfl⟩
  by_cases hb : b < a
  · rw [if_pos hb]
    have := h _ u k
    rwa [show min a b = b by omega] at this
  · rw [if_neg hb]
    have := h _ t k
    rwa [show min a b = a by omega] at this
theorem add_call {l b : Addr} {vs ws : List Value} {Q : Value → Shared → Prop} (hl : s.heap.IsList l vs.toArray) (hb : s.heap.IsList b ws.toArray)
    (h : ∀ D s', s.heap.get? D = none → PL s'.heap D (vs ++ ws) → Kp Nil s s' → Q (.ref D) s') (hsz : vs.length + ws.length ≤ sizeLine) : wpAny (model prog w) A (binaryOp .Add (.ref l) (.ref b)) Q E s := by
  obtain ⟨⟨cls, dd, data, sl⟩, ho, hc, n, hd⟩ := id hl
  obtain ⟨⟨cls2, dd2, data2, sl2⟩, ho2, hc2, n2, hd2⟩ := id hb
  simp only at hc hd hc2 hd2
  subst hc hd hc2 hd2
  have e : vs.toArray ++ ws.toArray = (vs ++ ws).toArray := by simp
  refine concat_meets ⟨_, ho, rfl⟩ ⟨_, ho2, rfl⟩ noFill_list_add seq_list_add PySem.F.slot_list_add PySem.F.entry_list_add (PySem.F.args_list_add_2 _ _) (list_addW l b vs.toArray ws.toArray n n2 dd dd2 sl sl2 (by simpa using hsz)) ⟨ho, ho2, ?_⟩
  rw [e]
  exact h _ _ (get_fresh (Nat.le_refl _)) ⟨_, 0, Heap.get?_push_size _ rfl, rfl, rfl, rfl⟩ (Kp.push (t := s.toks) _)
theorem mul_call {l : Addr} {vs : List Value} {x : Int} {u : Tok} {Q : Value → Shared → Prop} (hl : s.heap.IsList l vs.toArray) (hlo : -(2 ^ 63 : Int) ≤ x) (hhi : x < 2 ^ 63) (hsz : vs.length * x.toNat ≤ 256)
    (h : ∀ D s', s.heap.get? D = none → PL s'.heap D (List.replicate x.toNat vs).flatten → Kp Nil s s' → Q (.ref D) s') : wpAny (model prog w) A (binaryOp .Mult (.ref l) (.int x u)) Q E s := by
  obtain ⟨⟨cls, d, data, sl⟩, ho, hcl, k, hd⟩ := id hl
  simp only at hcl hd
  subst hcl hd
  have hsz' : vs.toArray.size * x.toNat ≤ 256 := by simpa using hsz
  refine wpAny_binaryOp_repeat_ref (T := "list") (U := "int") (by decide) ⟨_, ho, rfl⟩ (fun s' => typeIs_int s' x u) noFill_list_mul F.fills_int_mul F.slot_int_rmul repeat_list F.slot_int_index.lookup
    (call_meets F.slot_int_rmul (typeIs_int s x u) F.entry_int_rmul (F.args_int_rmul_2 _ _) (lm_int_rmul_list_any x u l vs.toArray k d sl)
      ⟨ho, rfl, ⟨_, ho, rfl⟩, call_meets F.slot_list_mul ⟨_, ho, rfl⟩ F.entry_list_mul (F.args_list_mul_2 _ _)
        (lm_list_mul_any l vs.toArray k d sl x u (by simp [Builtin.List.listFitsIndex]; omega) (by omega) (by simp [Builtin.List.listTooLong, sizeLine]; omega))
        ⟨ho, ?_⟩⟩)
  rw [listMul_foldl_if]
  exact h _ _ (get_fresh (Nat.le_refl _)) ⟨_, 0, Heap.get?_push_size _ rfl, rfl, rfl, rfl⟩ (Kp.push (t := s.toks) _)
/-- a list's slice, the slice object made -/
theorem slice_call {l sl : Addr} {items : List Value} {vl vu vs : Value} {lo hi st : Option Int} {value slice : PySem.Expr} {ops : List Value} {Q : Value → Shared → Prop} (hl : s.heap.IsList l items.toArray)
    (hs : s.heap.IsSliceOf sl vl vu vs) (pl : IsPart vl lo) (pu : IsPart vu hi) (ps : IsPart vs st) (h0 : st ≠ some 0) (hsz : items.length < 64)
    (h : ∀ D s', s.heap.get? D = none → PL s'.heap D (slicePick items.toArray lo hi st).toList → Kp Nil s s' → Q (.ref D) s') (ho : subscripted slice false (.ref l) (.ref sl) = operate ops (getItem (.ref l) (.ref sl))) :
    wpAny (model prog w) A (subscriptTail value slice (.ref l) (.ref sl)) Q E s :=
  tail_any hl.typeIs slot_list_getitem.lookup (wpAny_getItem_list_slice hl hs pl pu ps h0 (h _ _ (get_fresh (Nat.le_refl _)) ⟨_, 0, Heap.get?_push_size _ rfl, rfl, rfl, rfl⟩ (Kp.push (t := s.toks) _)) (by rw [List.size_toArray, sizeLine_eq]; omega)) ho
theorem mk_slice {lower upper step : Option PySem.Expr} {p : Pos} {env : Env} {Q : Value → Shared → Prop}
    (h : wpAny (model prog w) A (evalPart lower env) (fun l s₁ => wpAny (model prog w) A (evalPart upper env) (fun u s₂ => wpAny (model prog w) A (evalPart step env) (fun st s₃ =>
      ∀ S s', s₃.heap.get? S = none → s'.heap.IsSliceOf S l u st → Kp Nil s₃ s' → Q (.ref S) s') E s₂) E s₁) E s) :
    wpAny (model prog w) A (eval (.Slice lower upper step p) env) Q E s :=
  wpAny_Slice (wpAny_mono h (fun l s₁ h₁ => wpAny_mono h₁ (fun u s₂ h₂ => wpAny_mono h₂ (fun st s₃ h₃ => h₃ _ _ (get_fresh (Nat.le_refl _)) ⟨_, Heap.get?_push_size _ rfl, rfl, rfl⟩ (Kp.push (t := s₃.toks) _)) fun _ _ q => q) fun _ _ q => q) fun _ _ q => q)
theorem part_none {env : Env} {Q : Value → Shared → Prop} (h : Q .none s) : wpAny (model prog w) A (evalPart none env) Q E s := wpAny_of_eq rfl h
theorem part_some {env : Env} {e : PySem.Expr} {Q : Value → Shared → Prop} (h : wpAny (model prog w) A (eval e env) Q E s) : wpAny (model prog w) A (evalPart (some e) env) Q E s := h
end
end Mine
end

section
open PySem PySem.W PySem.Calls PyProof.Rows
namespace Mine

abbrev lE (L : Addr) (cd : Value) : Env := envOfC (sName (fdef 8)) (sScope (fdef 8)) L 60 cd

theorem xl_not {env : Env} {s : Shared} {bs : List (Str × Value)} (V : Vs env s.heap bs) (T : TabOk s) {l : Addr} {o : Obj} {xs : Array Value} {n : Nat} (e : s.heap.get? l = some o) (d : o.data = .seq xs n) : ¬ Xl env s l := fun q => by
  rcases q with q | q | q
  · exact own_seq V e d q
  · obtain ⟨ps, e50, _⟩ := T
    rw [q, e50] at e; cases e; cases d
  · rw [q] at e; cases e
theorem xc_not {s : Shared} (T : TabOk s) {l : Addr} {o : Obj} {xs : Array Value} {n : Nat} (e : s.heap.get? l = some o) (d : o.data = .seq xs n) : ¬ Xc s l := fun q => by
  rcases q with q | q
  · obtain ⟨ps, e50, _⟩ := T
    rw [q, e50] at e; cases e; cases d
  · rw [q] at e; cases e
theorem IsList.xl {env : Env} {s s' : Shared} {bs : List (Str × Value)} (V : Vs env s.heap bs) (T : TabOk s) (k : Kp (Xl env s) s s') {l : Addr} {its : Array Value} (x : s.heap.IsList l its) : s'.heap.IsList l its :=
  let ⟨_, e, _, _, d⟩ := x; IsList.kp k (xl_not V T e d) x
theorem PL.xl {env : Env} {s s' : Shared} {bs : List (Str × Value)} (V : Vs env s.heap bs) (T : TabOk s) (k : Kp (Xl env s) s s') {l : Addr} {its : List Value} (x : PL s.heap l its) : PL s'.heap l its :=
  let ⟨_, _, e, _, _, d⟩ := x; PL.kp k (xl_not V T e d) x
theorem IsList.xc {fs : List Addr} {s s' : Shared} (T : TabOk s) (k : KpF (Xc s) fs s s') {l : Addr} {its : Array Value} (x : s.heap.IsList l its) : s'.heap.IsList l its :=
  let ⟨_, e, _, _, d⟩ := x; IsList.kf k (xc_not T e d) x
theorem PL.xc {fs : List Addr} {s s' : Shared} (T : TabOk s) (k : KpF (Xc s) fs s s') {l : Addr} {its : List Value} (x : PL s.heap l its) : PL s'.heap l its :=
  let ⟨_, _, e, _, _, d⟩ := x; PL.kf k (xc_not T e d) x
theorem On.xl {H : Heap} {env : Env} {s s' : Shared} (G : GndL H) (hO : ∀ a, Own env a → H.get? a = Option.none) (on : On H s) (k : Kp (Xl env s) s s') : On H s' := on.kp k fun a q => by
  rcases q with q | q | q
  · exact hO a q
  · rw [q]; exact G.h50
  · exact on.none q
theorem On.xc {H : Heap} {s s' : Shared} {L : Addr} (G : GndL H) (on : On H s) (k : KpF (Xc s) [L] s s') (hL : H.get? L = Option.none) : On H s' := on.kf k (fun a q => by
  rcases q with q | q
  · rw [q]; exact G.h50
  · exact on.none q) fun a ha => by rw [List.mem_singleton.mp ha]; exact hL
/-- a comprehension's steps, seen as a statement's -/
theorem xc_xl {env : Env} {s s' : Shared} (k : KpF (Xc s) [env.locals] s s') : Kp (Xl env s) s s' := k.k.mono fun a q => by
  rcases q with (q | q) | q
  · exact .inr (.inl q)
  · exact .inr (.inr q)
  · exact .inl (.inl (List.mem_singleton.mp q))
theorem xl_trans {env : Env} {s s' s'' : Shared} {bs : List (Str × Value)} (V : Vs env s'.heap bs) (T : TabOk s') (k : Kp (Xl env s) s s') (k' : Kp (Xl env s') s' s'') : Kp (Xl env s) s s'' := k.trans (k'.mono fun a q => by
  rcases q with q | q | q
  · exact .inl q
  · exact .inr (.inl q)
  · by_cases z : Xl env s a
    · exact z
    · exact .inr (.inr (k.none z q)))
theorem xl_nil {env : Env} {s s' : Shared} (k : Kp Nil s s') : Kp (Xl env s) s s' := k.mono fun _ q => q.elim
theorem xl_own {env : Env} {s s' : Shared} (k : Kp (Own env) s s') : Kp (Xl env s) s s' := k.mono fun _ q => .inl q
theorem TabOk.own {env : Env} {s s' : Shared} {bs : List (Str × Value)} (T : TabOk s) (V : Vs env s.heap bs) (k : Kp (Own env) s s') : TabOk s' := T.kp k (fun q => by
  obtain ⟨ps, e50, _⟩ := T
  exact own_fields V e50 rfl q) fun a q o e => (Own.nd V a q o e).notfn

section
variable {prog : Program} {w : World} {A : Around} {E : Value → Shared → Prop} {s : Shared} {H : Heap}

/-- len(x), x a name -/
theorem len_name {env : Env} {bs : List (Str × Value)} {y : Str} {p1 p2 p3 : Pos} {l : Addr} {vs : List Value} {Q : Value → Shared → Prop} (G : Gnd H) (on : On H s) (V : Vs env s.heap bs) (hb : bs.lookup y = some (.ref l)) (hl : s.heap.IsList l vs.toArray) (h64 : vs.length < 2 ^ 60)
    (h : ∀ s' t, s'.heap = s.heap → s'.gens = s.gens → s'.os = s.os → Q (.int vs.length t) s') (hky : isVar (env.kindOf y) = true := by rfl) (hk : env.kindOf "len" = some .globalImplicit := by rfl) (hf : env.scope.kind = .function := by rfl) (hg : env.globals = mainGlobals := by rfl) (hbi : env.builtins = builtinsNs := by rfl)
    (hn : (y == ("__classdict__" : Str)) = false := by decide) (hd : (y == ("__debug__" : Str)) = false := by decide) :
    wpAny (model prog w) A (eval (.Call (.Name "len" p1) [.Name y p2] [] p3) env) Q E s := by
  refine call_one G on (x := "len") (by decide) boot_len (V.name hb (len_list hl (by simp; omega) ?_) rfl hky hf hn hd) rfl hk hf hg hbi
  have := h { s with toks := s.toks + 1 + 1 } (s.toks + 1) rfl rfl rfl
  simpa using this
end
end Mine
end

section
open PySem PySem.W PySem.Calls PyProof.Rows
namespace Mine

section
variable {prog : Program} {w : World} {A : Around} {E : Value → Shared → Prop} {s : Shared} {H : Heap}

theorem rangeSize1 (n : Nat) : Builtin.Range.rangeSize 0 n 1 = n := by
  unfold Builtin.Range.rangeSize
  simp only [show (1 : Int) > 0 from by decide, if_true]
  split <;> omega
/-- iter(range(n)) -/
theorem iter_range1 {r : Addr} {n : Nat} {t u v : Tok} {Q : Value → Shared → Prop} (hr : IsRange s.heap r 0 n 1 t u v) (hn : n < 2 ^ 40) (h : ∀ I s', s.heap.get? I = none → IsRangeIter s'.heap I 0 n 1 → Kp Nil s s' → Q (.ref I) s') : wpAny (model prog w) A (pyIter (.ref r)) Q E s := by
  refine iter_range hr ?_ fun I s' a b k => h I s' a (by rwa [rangeSize1] at b) k
  unfold Builtin.Range.small Builtin.Range.rangeFitsLong
  rw [rangeSize1]
  simp only [Bool.and_eq_true, decide_eq_true_eq, Bool.or_eq_true, show ((1 : Int) > 0) from by decide, if_true]
  refine ⟨⟨⟨⟨by omega, by omega⟩, by omega⟩, by omega⟩, .inr (by omega)⟩
/-- min(x, y) -/
theorem call_min2 {env : Env} {e1 e2 : PySem.Expr} {p pos : Pos} {Q : Value → Shared → Prop} (G : Gnd H) (on : On H s) (hh : A.handled = none)
    (h : wpAny (model prog w) A (spliced (backTo pos (starEach [e1, e2] env))) (fun vs s₁ => ∃ a b t u, vs = [.int a t, .int b u] ∧ ∀ s' t', Kp Nil s₁ s' → Q (.int (min a b) t') s') E s)
    (he : backTo pos (starEach [e1, e2] env) = (false, eval e1 env) :: backTo pos (starEach [e2] env) := by rfl) (hpl : (backTo pos (starEach [e1, e2] env)).any (·.1) = false := by rfl)
    (hk : env.kindOf "min" = some .globalImplicit := by rfl) (hf : env.scope.kind = .function := by rfl) (hg : env.globals = mainGlobals := by rfl) (hbi : env.builtins = builtinsNs := by rfl) :
    wpAny (model prog w) A (eval (.Call (.Name "min" p) [e1, e2] [] pos) env) Q E s := by
  refine wpAny_Call_NameR (gl_bi G on (x := "min") (by decide) boot_min ?_ hk hf hg hbi)
  refine callWith_builtin hpl ?_
  rw [he] at h ⊢
  refine evalArgs_plain (wpAny_mono h (fun vs s₁ h₁ => ?_) fun _ _ q => q)
  obtain ⟨a, b, t, u, rfl, h₁⟩ := h₁
  exact min_call hh fun s' t' k => h₁ s' t' k

theorem vs_heap {env : Env} {bs : List (Str × Value)} {s s' : Shared} (V : Vs env s.heap bs) (e : s'.heap = s.heap) : Vs env s'.heap bs := e ▸ V
theorem on_heap {s s' : Shared} (o : On H s) (e : s'.heap = s.heap) : On H s' := fun a b q => by rw [e]; exact o a b q

theorem kp_heap {X : Addr → Prop} {s s' : Shared} (e1 : s'.heap = s.heap) (e2 : s'.gens = s.gens) (e3 : s'.os = s.os) : Kp X s s' := ⟨fun a o _ e => by rw [e1]; exact e, e2, e3⟩
theorem kf_nil {fs : List Addr} {s s' : Shared} (k : Kp Nil s s') (n50 : 50 ∉ fs) : KpF (· = 50) fs s s' := KpF.of (k.mono fun _ q => q.elim) fun a ha q => n50 (q ▸ ha)
theorem TabOk.nil {s s' : Shared} (T : TabOk s) (k : Kp Nil s s') : TabOk s' := T.kp k (fun q => q) fun _ q => q.elim
/-- drawn = .. -/
theorem law0 {L : Addr} {cd : Value} {l : Addr} {vs : List Value} {xs : List Int} {Q : Flow → Shared → Prop} (G : GndL H) (hO : ∀ a, Own (lE L cd) a → H.get? a = none) (on : On H s) (V : Vs (lE L cd) s.heap [("script", .ref l)]) (T : TabOk s) (hl : s.heap.IsList l vs.toArray) (hi : IntsAre vs xs) (h64 : vs.length < 64) (hh : A.handled = none)
    (h : ∀ s' D ws rs, PL s'.heap D ws → IntsAre ws rs → rs.length = min 30 vs.length + 4 → Vs (lE L cd) s'.heap [("drawn", .ref D), ("script", .ref l)] → TabOk s' → Kp (Xl (lE L cd) s) s s' → wpAny (model prog w) A (execs ((sBody (fdef 8)).drop 1) (lE L cd)) Q E s') :
    wpAny (model prog w) A (execs (sBody (fdef 8)) (lE L cd)) Q E s := by
  have hL : ∃ o, s.heap.get? L = some o := by obtain ⟨m, ⟨o, _, _, e, _⟩, _⟩ := V.ns; exact ⟨o, e⟩
  have hfs : ∀ a ∈ [(lE L cd).locals], ∃ o, s.heap.get? a = some o := fun a ha => by rw [List.mem_singleton.mp ha]; exact hL
  have n50 : 50 ∉ [(lE L cd).locals] := fun q => own_xc V T 50 (.inl rfl) (.inl (List.mem_singleton.mp q))
  refine wpAny_execs_cons (wpAny_Assign_Name (wpAny_BinOp (range_val (R := RInt) (P := fun _ _ => True) (x0 := 0) (step := 1) (cnt := min 30 vs.length) (cs := [("script", .ref l)]) (cl := [("script", L + 1)]) (fs := [(lE L cd).locals]) RInt.stable V T hfs n50 hh (by omega) rfl ⟨rfl, trivial⟩ ⟨⟨rfl, rfl, rfl, rfl, rfl⟩, trivial⟩ rfl ?iter (fun C => C) (fun C => .inl rfl) (fun C => Nat.le_refl _) (fun C s' v E' Q' V' h' => V'.putL rfl fun s'' V'' k => h' s'' V'' k) ?elt ?fin)))
  case iter =>
    intro Q' hQ
    refine call_type G.g on (x := "range") (by decide) boot_range (spliced_cons (call_min2 G.g on hh (spliced_cons (wpAny_Constant_int (k := 30) (pos := default) (spliced_cons ?_)))))
    have on' : On H { s with toks := s.toks + 1 } := on
    refine len_name G.g on' V rfl hl (by omega) fun s₁ t e1 e2 e3 => spliced_nil ⟨30, vs.length, _, t, rfl, fun s₂ t' k => spliced_nil ?_⟩
    have k02 : Kp Nil s s₂ := ((kp_heap (X := Nil) e1 e2 e3).un).trans k
    rw [show (min 30 (vs.length : Int)) = ((min 30 vs.length : Nat) : Int) by omega]
    exact call_range1 fun r s₃ t₃ u hr hr3 k₃ => iter_range1 hr3 (by omega) fun I s₄ hI hI4 k4 => hQ I s₄ hI4 ((k02.trans k₃).none (fun q => q) hI) ((k02.trans k₃).trans k4)
  case elt =>
    intro D C i s' t E' Q' hic V' K' T' hD hD0 hQ
    have on' := on.xc G K' (hO L (.inl rfl))
    have hl' := IsList.xc T K' hl
    refine call_one G.g on' (x := "sum") (by decide) boot_sum (Subscript_ (V'.name rfl (mk_slice (part_some (V'.name rfl (part_none (part_some (wpAny_Constant_int fun S s₂ hS sl k2 => ?_))))))))
    have k2 : Kp Nil s' s₂ := k2.un
    refine slice_call (IsList.kp k2 (fun q => q) hl') sl (.int _ _) .none (.int _ _) (by simp) h64 (fun D' s₃ hD' ls3 k3 => ?_) (ops := [.ref l, .ref S]) rfl
    refine sum_call hh ls3.isList (hi.pick _ _ _) fun s₄ t4 k4 => ?_
    have k04 := (k2.trans k3).trans k4
    exact hQ _ _ s₄ ⟨t4, rfl⟩ trivial (kf_nil k04 n50) (T'.nil k04)
  case fin =>
    intro D s₁ ws rs got K1
    have V1 : Vs (lE L cd) s₁.heap _ := V.kf K1 (own_xc V T)
    refine List_ (spliced_cons (wpAny_Constant_int (k := 21) (pos := default) (spliced_cons (wpAny_Constant_int (k := 5) (pos := default) (spliced_cons (wpAny_Constant_int (k := 6) (pos := default) (spliced_cons (wpAny_Constant_int (k := 8) (pos := default) (spliced_nil (mk_list (fun D2 s₂ hD2 hD22 k2 => ?_) (by show 4 ≤ sizeLine; decide +kernel)))))))))))
    have k2 : Kp Nil s₁ s₂ := k2.un
    have hrs : rs.length = min 30 vs.length := by rw [← got.p.length]; simp
    have hwi := ints_of_all2 got.r
    have hwl := hwi.length
    refine add_call (PL.kp k2 (fun q => q) got.ls).isList (ws := [.int 21 _, .int 5 _, .int 6 _, .int 8 _]) ⟨_, hD22, rfl, 0, rfl⟩ (fun D3 s₃ hD3 ls3 k3 => ?_) (by rw [sizeLine_eq]; simp; omega)
    have K3 : Kp (Xl (lE L cd) s) s s₃ := ((xc_xl K1).trans (k2.mono fun _ q => q.elim)).trans (k3.mono fun _ q => q.elim)
    have V3 := (V1.kp k2 fun _ q => q.elim).kp k3 fun _ q => q.elim
    refine V3.put K3 (fun a q => .inl q) fun s₄ V4 K4 k4 => ?_
    dsimp only
    refine h s₄ D3 _ (rs ++ [21, 5, 6, 8]) (PL.kp k4 (own_pl V3 ls3) ls3) (hwi.append (.cons _ _ (.cons _ _ (.cons _ _ (.cons _ _ .nil))))) (by simp; omega) V4 (((got.T.nil k2).nil k3).own V3 k4) K4
end
end Mine
end

section
open PySem PySem.W PySem.Calls PyProof.Rows
namespace Mine

section
variable {prog : Program} {w : World} {A : Around} {E : Value → Shared → Prop} {s : Shared} {H : Heap}

/-- numbers = [.. for x in drawn] -/
theorem law1 {L : Addr} {cd : Value} {l D : Addr} {ds : List Value} {dr : List Int} {Q : Flow → Shared → Prop} (V : Vs (lE L cd) s.heap [("drawn", .ref D), ("script", .ref l)]) (T : TabOk s) (hd : PL s.heap D ds) (hi : IntsAre ds dr) (h64 : ds.length < 64) (hh : A.handled = none)
    (h : ∀ s' N ws rs, PL s'.heap N ws → IntsAre ws rs → rs.length = ds.length → Vs (lE L cd) s'.heap [("numbers", .ref N), ("script", .ref l)] → TabOk s' → Kp (Xl (lE L cd) s) s s' → wpAny (model prog w) A (execs ((sBody (fdef 8)).drop 2) (lE L cd)) Q E s') :
    wpAny (model prog w) A (execs ((sBody (fdef 8)).drop 1) (lE L cd)) Q E s := by
  have hL : ∃ o, s.heap.get? L = some o := by obtain ⟨m, ⟨o, _, _, e, _⟩, _⟩ := V.ns; exact ⟨o, e⟩
  have hfs : ∀ a ∈ [(lE L cd).locals], ∃ o, s.heap.get? a = some o := fun a ha => by rw [List.mem_singleton.mp ha]; exact hL
  have n50 : 50 ∉ [(lE L cd).locals] := fun q => own_xc V T 50 (.inl rfl) (.inl (List.mem_singleton.mp q))
  refine wpAny_execs_cons (wpAny_Assign_Name (list_val (R := RInt) (P := fun _ _ => True) (cnd := fun _ => true) (cs := []) (cl := []) (fs := [(lE L cd).locals]) RInt.stable V T hfs n50 hh hd.isList h64 rfl trivial trivial rfl (fun Q' hQ => V.name rfl hQ) (fun C => rfl) ?cond ?elt ?fin))
  case cond =>
    intro C i v s' E' Q' hv V' K' T' hQ
    simp only [List.forIn_nil]
    exact wpAny_pure (hQ s' (kf_nil Kp.rfl' n50) T')
  case elt =>
    intro D C i v s' E' Q' hv _ V' K' T' hD hD0 hQ
    obtain ⟨x, t, rfl⟩ := hi.all v (List.mem_of_getElem? hv)
    have done : ∀ (y : Int) (t' : Tok) (s'' : Shared), s''.heap = s'.heap → s''.gens = s'.gens → s''.os = s'.os → Q' (.int y t') s'' := fun y t' s'' e1 e2 e3 => hQ _ y s'' ⟨t', rfl⟩ trivial (kp_heap e1 e2 e3)
    refine IfExp_ (wpAny_isTrue_Compare1 (wpAny_BinOp (V'.name rfl (wpAny_Constant_int (mod_int' (by decide) (wpAny_Constant_int (eq_int (wpAny_truthy_bool ?_))))))))
    split
    · exact wpAny_BinOp (V'.name rfl (wpAny_Constant_int (floordiv_int (by decide) (done _ _ _ rfl rfl rfl))))
    · exact wpAny_BinOp (wpAny_BinOp (V'.name rfl (wpAny_Constant_int (floordiv_int (by decide) (wpAny_Constant_int (mod_int' (by decide) (done _ _ _ rfl rfl rfl)))))))
  case fin =>
    intro N s₁ ws rs got K1
    have V1 : Vs (lE L cd) s₁.heap _ := V.kf K1 (own_xc V T)
    refine V1.put (xc_xl K1) (fun a q => .inl q) (fun s₂ V2 K2 k2 => ?_) (hc := fun _ => rfl)
    dsimp only
    refine h s₂ N ws rs (PL.kp k2 (own_pl V1 got.ls) got.ls) (ints_of_all2 got.r) ?_ (V2.weak ⟨rfl, rfl, trivial⟩) (got.T.own V1 k2) K2
    rw [← got.p.length, List.filter_eq_self.mpr (fun _ _ => rfl), List.length_range]

theorem fmod_nat (a b : Nat) (hb : 0 < b) : ((a : Int).fmod b) = ((a % b : Nat) : Int) := by
  rw [Int.fmod_eq_emod_of_nonneg _ (by omega)]; exact (Int.natCast_emod a b).symm
theorem fmod_range (a : Int) (b : Nat) (hb : 0 < b) : ∃ m : Nat, m < b ∧ a.fmod b = (m : Int) := by
  rw [Int.fmod_eq_emod_of_nonneg _ (by omega)]
  have h1 := Int.emod_nonneg a (show (b : Int) ≠ 0 by omega)
  have h2 := Int.emod_lt_of_pos a (show (0 : Int) < b by omega)
  exact ⟨(a % b).toNat, by omega, by omega⟩
/-- the padding -/
theorem pad_mod (n w : Nat) (hw : 0 < w) : ∃ m : Nat, m < w ∧ (-(n : Int)).fmod w = (m : Int) ∧ (n + m) % w = 0 := by
  obtain ⟨m, h1, h2⟩ := fmod_range (-(n : Int)) w hw
  refine ⟨m, h1, h2, ?_⟩
  rw [Int.fmod_eq_emod_of_nonneg _ (by omega)] at h2
  have h3 : ((n + m : Nat) : Int) % (w : Int) = 0 := by
    rw [Int.natCast_add, ← h2, Int.add_emod, Int.emod_emod_of_dvd _ (Int.dvd_refl _), ← Int.add_emod, Int.add_right_neg, Int.zero_emod]
  rw [← Int.natCast_emod] at h3
  omega

/-- width, and numbers laid on -/
theorem law23 {L : Addr} {cd : Value} {l N : Addr} {vs ws : List Value} {xs nr : List Int} {Q : Flow → Shared → Prop} (G : GndL H) (hO : ∀ a, Own (lE L cd) a → H.get? a = none) (on : On H s) (V : Vs (lE L cd) s.heap [("numbers", .ref N), ("script", .ref l)]) (T : TabOk s) (hl : s.heap.IsList l vs.toArray) (h64 : vs.length < 64) (hN : PL s.heap N ws) (hi : IntsAre ws nr) (hn : nr.length < 40) (hh : A.handled = none)
    (h : ∀ s' N' us ur tw, PL s'.heap N' us → IntsAre us ur → nr.length ≤ ur.length → ur.length < nr.length + (2 + vs.length % 4) → ur.length % (2 + vs.length % 4) = 0 → Vs (lE L cd) s'.heap [("numbers", .ref N'), ("width", .int ((2 + vs.length % 4 : Nat) : Int) tw), ("script", .ref l)] → TabOk s' → Kp (Xl (lE L cd) s) s s' → wpAny (model prog w) A (execs ((sBody (fdef 8)).drop 4) (lE L cd)) Q E s') :
    wpAny (model prog w) A (execs ((sBody (fdef 8)).drop 2) (lE L cd)) Q E s := by
  have onk : ∀ {s' : Shared}, Kp (Xl (lE L cd) s) s s' → On H s' := fun k => On.xl G hO on k
  refine wpAny_execs_cons (wpAny_Assign_Name (wpAny_BinOp (wpAny_Constant_int (wpAny_BinOp (len_name G.g (on_heap on rfl) V rfl hl (by omega) fun s₁ t1 e1 e2 e3 => wpAny_Constant_int (mod_int' (by decide) (add_int ?_)))))))
  have em : ((vs.length : Int).fmod 4) = ((vs.length % 4 : Nat) : Int) := fmod_nat vs.length 4 (by decide)
  rw [em, show (2 : Int) + ((vs.length % 4 : Nat) : Int) = ((2 + vs.length % 4 : Nat) : Int) by omega]
  have V1 : Vs (lE L cd) s₁.heap [("numbers", .ref N), ("script", .ref l)] := vs_heap V e1
  have k01 : Kp (Xl (lE L cd) s) s s₁ := kp_heap e1 e2 e3
  refine V1.put k01 (fun a q => .inl q) (fun s₂ V2 K2 k2 => ?_) (hc := fun _ => rfl)
  dsimp only
  have T1 : TabOk s₁ := T.kp (kp_heap (X := Nil) e1 e2 e3) (fun q => q) fun _ q => q.elim
  have T2 : TabOk s₂ := T1.own V1 k2
  have hN2 : PL s₂.heap N ws := PL.xl V T K2 hN
  have hwl := hi.length
  refine wpAny_execs_cons (wpAny_Assign_Name (wpAny_BinOp (V2.name rfl (wpAny_BinOp (List_ (spliced_cons (wpAny_Constant_int (k := 2) (pos := default) (spliced_nil (mk_list (fun D s₃ hD hD3 k3 => ?_) (by show 1 ≤ sizeLine; decide +kernel))))))))))
  have k23 : Kp Nil s₂ s₃ := k3.un
  have V3 := V2.kp k23 fun _ q => q.elim
  have on3 : On H s₃ := (onk K2).kp k23 fun _ q => q.elim
  have hN3 : PL s₃.heap N ws := PL.kp k23 (fun q => q) hN2
  refine wpAny_BinOp (UnaryOp_ (len_name G.g on3 V3 rfl hN3.isList (by omega) fun s₄ t4 e41 e42 e43 => neg_int ?_))
  have V4 : Vs (lE L cd) s₄.heap _ := vs_heap V3 e41
  refine V4.name rfl (mod_int' (by omega) ?_)
  obtain ⟨m, hm, em2, hmod⟩ := pad_mod ws.length (2 + vs.length % 4) (by omega)
  rw [em2]
  have k34 : Kp Nil s₃ s₄ := kp_heap e41 e42 e43
  have ls4 : s₄.heap.IsList D (List.toArray [Value.int 2 s₂.toks]) := by rw [e41]; exact ⟨_, hD3, rfl, 0, rfl⟩
  refine mul_call (vs := [Value.int 2 s₂.toks]) ls4 (by omega) (by omega) (by simp; omega) fun D5 s₅ hD5 ls5 k5 => ?_
  have k35 : Kp Nil s₃ s₅ := k34.trans k5.un
  have hN5 : PL s₅.heap N ws := PL.kp k35 (fun q => q) hN3
  have hrep : (List.replicate (m : Int).toNat [Value.int 2 s₂.toks]).flatten = List.replicate m (Value.int 2 s₂.toks) := by simp
  rw [hrep] at ls5
  refine add_call hN5.isList ls5.isList (fun D6 s₆ hD6 ls6 k6 => ?_) (by rw [sizeLine_eq]; simp; omega)
  have k26 : Kp Nil s₂ s₆ := (k23.trans k35).trans k6
  have V6 := V2.kp k26 fun _ q => q.elim
  have K6 : Kp (Xl (lE L cd) s) s s₆ := K2.trans (k26.mono fun _ q => q.elim)
  have hrepI : ∀ m, IntsAre (List.replicate m (Value.int 2 s₂.toks)) (List.replicate m 2) := fun m => by
    induction m with
    | zero => exact .nil
    | succ m ih => rw [List.replicate_succ, List.replicate_succ]; exact .cons _ _ ih
  refine V6.put K6 (fun a q => .inl q) (fun s₇ V7 K7 k7 => ?_) (hc := fun _ => rfl)
  dsimp only
  refine h s₇ D6 _ (nr ++ List.replicate m 2) _ (PL.kp k7 (own_pl V6 ls6) ls6) (hi.append (hrepI m)) (by simp) (by simp; omega) (by rw [List.length_append, List.length_replicate, ← hwl]; exact hmod) (V7.weak ⟨rfl, rfl, rfl, trivial⟩) ((T2.nil k26).own V6 k7) K7
end
end Mine
end

section
open PySem PySem.W PySem.Calls PyProof.Rows
namespace Mine

theorem mul_div_lemma (t w : Nat) (hw : 0 < w) (ht : 0 < t) : ((t * w : Nat) : Int) > 0 := by
  have := Nat.mul_pos ht hw
  omega
theorem rangeSizeW (t w : Nat) (hw : 0 < w) (ht : 0 < t) : Builtin.Range.rangeSize 0 ((t * w : Nat) : Int) (w : Int) = t := by
  unfold Builtin.Range.rangeSize
  have h1 := mul_div_lemma t w hw ht
  rw [if_pos (by omega), if_pos (by omega)]
  obtain ⟨k, rfl⟩ : ∃ k, t = k + 1 := ⟨t - 1, by omega⟩
  have h2 : ((k + 1) * w - 1) / w = k := by
    refine Nat.div_eq_of_lt_le ?_ ?_
    · rw [Nat.succ_mul]; omega
    · have := Nat.mul_pos (Nat.succ_pos k) hw
      show (k + 1) * w - 1 < (k + 1) * w
      omega
  have h3 : (((k + 1) * w : Nat) : Int) - 0 - 1 = (((k + 1) * w - 1 : Nat) : Int) := by omega
  rw [h3, ← Int.natCast_ediv, h2]
  omega

/-- the list at l holds the rows xss -/
structure Tbl (s : Shared) (l : Addr) (vs : List Value) (xss : List (List Int)) : Prop where
  ls : PL s.heap l vs
  rows : All2 (fun v ys => ∃ r us, v = .ref r ∧ PL s.heap r us ∧ IntsAre us ys) vs xss
theorem Tbl.xl {env : Env} {s s' : Shared} {bs : List (Str × Value)} (V : Vs env s.heap bs) (T : TabOk s) (k : Kp (Xl env s) s s') {l : Addr} {vs : List Value} {xss : List (List Int)} (x : Tbl s l vs xss) : Tbl s' l vs xss :=
  ⟨PL.xl V T k x.ls, x.rows.imp fun v ys ⟨r, us, e, p, i⟩ => ⟨r, us, e, PL.xl V T k p, i⟩⟩
theorem Tbl.xc {fs : List Addr} {s s' : Shared} (T : TabOk s) (k : KpF (Xc s) fs s s') {l : Addr} {vs : List Value} {xss : List (List Int)} (x : Tbl s l vs xss) : Tbl s' l vs xss :=
  ⟨PL.xc T k x.ls, x.rows.imp fun v ys ⟨r, us, e, p, i⟩ => ⟨r, us, e, PL.xc T k p, i⟩⟩
theorem Tbl.kp {s s' : Shared} {l : Addr} {vs : List Value} {xss : List (List Int)} (x : Tbl s l vs xss) (k : Kp Nil s s') : Tbl s' l vs xss :=
  ⟨PL.kp k (fun q => q) x.ls, x.rows.imp fun v ys ⟨r, us, e, p, i⟩ => ⟨r, us, e, PL.kp k (fun q => q) p, i⟩⟩
theorem Tbl.heap {s s' : Shared} {l : Addr} {vs : List Value} {xss : List (List Int)} (x : Tbl s l vs xss) (e : s'.heap = s.heap) : Tbl s' l vs xss := by
  obtain ⟨a, b⟩ := x
  rw [← e] at a
  exact ⟨a, by rw [← e] at b; exact b⟩
theorem Tbl.of {D : Addr} {s : Shared} {vs : List Value} {xss : List (List Int)} (ls : PL s.heap D vs) (r : All2 (RRow D s) vs xss) : Tbl s D vs xss :=
  ⟨ls, r.imp fun v ys ⟨r, us, e, _, p, i⟩ => ⟨r, us, e, p, i⟩⟩
theorem Tbl.length {s : Shared} {l : Addr} {vs : List Value} {xss : List (List Int)} (x : Tbl s l vs xss) : vs.length = xss.length := x.rows.length

section
variable {prog : Program} {w : World} {A : Around} {E : Value → Shared → Prop} {s : Shared} {H : Heap}

/-- table = .. -/
theorem law4 {L : Addr} {cd : Value} {l N : Addr} {us : List Value} {ur : List Int} {wd t : Nat} {tw : Tok} {Q : Flow → Shared → Prop} (G : GndL H) (hO : ∀ a, Own (lE L cd) a → H.get? a = none) (on : On H s) (V : Vs (lE L cd) s.heap [("numbers", .ref N), ("width", .int (wd : Int) tw), ("script", .ref l)]) (T : TabOk s) (hN : PL s.heap N us) (hi : IntsAre us ur) (hlen : ur.length = t * wd) (hn : ur.length < 64) (ht : 0 < t) (hw : 0 < wd) (hw8 : wd < 8) (hh : A.handled = none)
    (h : ∀ s' Tb tv tr, Tbl s' Tb tv tr → tr.length = t → (∀ row ∈ tr, row.length = wd) → Vs (lE L cd) s'.heap [("table", .ref Tb), ("width", .int (wd : Int) tw), ("script", .ref l)] → TabOk s' → Kp (Xl (lE L cd) s) s s' → wpAny (model prog w) A (execs ((sBody (fdef 8)).drop 5) (lE L cd)) Q E s') :
    wpAny (model prog w) A (execs ((sBody (fdef 8)).drop 4) (lE L cd)) Q E s := by
  have hL : ∃ o, s.heap.get? L = some o := by obtain ⟨m, ⟨o, _, _, e, _⟩, _⟩ := V.ns; exact ⟨o, e⟩
  have hfs : ∀ a ∈ [(lE L cd).locals], ∃ o, s.heap.get? a = some o := fun a ha => by rw [List.mem_singleton.mp ha]; exact hL
  have n50 : 50 ∉ [(lE L cd).locals] := fun q => own_xc V T 50 (.inl rfl) (.inl (List.mem_singleton.mp q))
  have htn : t ≤ ur.length := by rw [hlen]; exact Nat.le_mul_of_pos_right t hw
  have hul := hi.length
  refine wpAny_execs_cons (wpAny_Assign_Name (range_val (R := RRow) (P := fun _ ys => ys.length = wd) (x0 := 0) (step := wd) (cnt := t) (cs := [("numbers", .ref N), ("width", .int (wd : Int) tw)]) (cl := [("width", L + 3), ("numbers", L + 2)]) (fs := [(lE L cd).locals]) RRow.stable V T hfs n50 hh (by omega) rfl ⟨rfl, rfl, trivial⟩ ⟨⟨rfl, rfl, rfl, rfl, rfl⟩, ⟨rfl, rfl, rfl, rfl, rfl⟩, trivial⟩ rfl ?iter (fun C => C) (fun C => .inl rfl) (fun C => Nat.le_refl _) (fun C s' v E' Q' V' h' => V'.putL rfl fun s'' V'' k => h' s'' V'' k) ?elt ?fin))
  case iter =>
    intro Q' hQ
    refine call_type G.g on (x := "range") (by decide) boot_range (spliced_cons (wpAny_Constant_int (k := 0) (pos := default) (spliced_cons ?_)))
    have on' : On H { s with toks := s.toks + 1 } := on
    refine len_name G.g on' V rfl hN.isList (by omega) fun s₁ t1 e1 e2 e3 => spliced_cons ?_
    have V1 : Vs (lE L cd) s₁.heap _ := vs_heap V e1
    refine V1.name rfl (spliced_nil (call_range3 (by omega) (by omega) fun r s₂ hr hr2 k2 => ?_))
    have k02 : Kp Nil s s₂ := ((kp_heap (X := Nil) e1 e2 e3).un).trans k2
    rw [hul, hlen] at hr2
    refine iter_range hr2 ?_ fun I s₃ hI hI3 k3 => ?_
    · unfold Builtin.Range.small Builtin.Range.rangeFitsLong
      rw [rangeSizeW t wd hw ht]
      have := hlen
      simp only [Bool.and_eq_true, decide_eq_true_eq, Bool.or_eq_true]
      rw [if_pos (by omega)]
      rw [← hlen]
      refine ⟨⟨⟨⟨by omega, by omega⟩, by omega⟩, by omega⟩, .inr (by simp only [Bool.and_eq_true, decide_eq_true_eq]; omega)⟩
    · rw [rangeSizeW t wd hw ht] at hI3
      exact hQ I s₃ hI3 (k02.none (fun q => q) hI) (k02.trans k3)
  case elt =>
    intro D C i s' tk E' Q' hic V' K' T' hD hD0 hQ
    have on' := on.xc G K' (hO L (.inl rfl))
    have hN' := PL.xc T K' hN
    refine Subscript_ (V'.name rfl (mk_slice (part_some (V'.name rfl (part_some (wpAny_BinOp (V'.name rfl (V'.name rfl (add_int (part_none fun S s₂ hS sl k2 => ?_))))))))))
    have k2 : Kp Nil s' s₂ := k2.un
    refine slice_call (IsList.kp k2 (fun q => q) hN'.isList) sl (.int _ _) (.int _ _) .none (by simp) (by omega) (fun D' s₃ hD' ls3 k3 => ?_) (ops := [.ref S, .ref N]) rfl
    have hiw : (i : Int) * (wd : Int) = ((i * wd : Nat) : Int) := by simp
    have hile : i * wd + wd ≤ ur.length := by
      rw [hlen, ← Nat.succ_mul]
      exact Nat.mul_le_mul_right wd hic
    have hpk := kmk_run (x := 0 + (i : Int) * wd) (y := 0 + (i : Int) * wd + wd) hi (by omega) (by omega)
    have k03 := k2.trans k3
    refine hQ _ _ s₃ ⟨D', _, rfl, ?_, ls3, hpk⟩ ?_ (kf_nil k03 n50) (T'.nil k03)
    · exact fun q => by
        obtain ⟨o, e⟩ := hD
        rw [q, k2.keep _ _ (fun q => q) e] at hD'; cases hD'
    · rw [List.length_take, List.length_drop, hiw]
      omega
  case fin =>
    intro Tb s₁ ws rs got K1
    have V1 : Vs (lE L cd) s₁.heap _ := V.kf K1 (own_xc V T)
    refine V1.put (xc_xl K1) (fun a q => .inl q) (fun s₂ V2 K2 k2 => ?_) (hc := fun _ => rfl)
    dsimp only
    refine h s₂ Tb ws rs (Tbl.xl V1 got.T (xl_own k2) (Tbl.of got.ls got.r)) ?_ ?_ (V2.weak ⟨rfl, rfl, rfl, trivial⟩) (got.T.own V1 k2) K2
    · rw [← got.p.length]; simp
    · intro row hr
      obtain ⟨i, hi', rfl⟩ := List.getElem_of_mem hr
      obtain ⟨a, _, r⟩ := got.p.get' (List.getElem?_eq_getElem hi')
      exact r
end
end Mine
end

section
open PySem PySem.W PySem.Calls PyProof.Rows
namespace Mine

section
variable {prog : Program} {w : World} {A : Around} {E : Value → Shared → Prop} {s : Shared} {H : Heap}

/-- sum(script) -/
theorem sum_name {env : Env} {bs : List (Str × Value)} {y : Str} {p1 p2 p3 : Pos} {l : Addr} {vs : List Value} {xs : List Int} {Q : Value → Shared → Prop} (G : Gnd H) (on : On H s) (V : Vs env s.heap bs) (hb : bs.lookup y = some (.ref l)) (hl : s.heap.IsList l vs.toArray) (hi : IntsAre vs xs) (hh : A.handled = none)
    (h : ∀ s' t, Kp Nil s s' → Q (.int xs.sum t) s') (hky : isVar (env.kindOf y) = true := by rfl) (hk : env.kindOf "sum" = some .globalImplicit := by rfl) (hf : env.scope.kind = .function := by rfl) (hg : env.globals = mainGlobals := by rfl) (hbi : env.builtins = builtinsNs := by rfl)
    (hn : (y == ("__classdict__" : Str)) = false := by decide) (hd : (y == ("__debug__" : Str)) = false := by decide) :
    wpAny (model prog w) A (eval (.Call (.Name "sum" p1) [.Name y p2] [] p3) env) Q E s :=
  call_one G on (x := "sum") (by decide) boot_sum (V.name hb (sum_call hh hl hi h) rfl hky hf hn hd) rfl hk hf hg hbi

/-- across and down -/
theorem law56 {L : Addr} {cd : Value} {l Tb : Addr} {vs tv : List Value} {xs : List Int} {tr : List (List Int)} {wd : Nat} {tw : Tok} {Q : Flow → Shared → Prop} (G : GndL H) (hO : ∀ a, Own (lE L cd) a → H.get? a = none) (on : On H s) (V : Vs (lE L cd) s.heap [("table", .ref Tb), ("width", .int (wd : Int) tw), ("script", .ref l)]) (T : TabOk s) (hl : s.heap.IsList l vs.toArray) (hi : IntsAre vs xs) (h64 : vs.length < 64) (hT : Tbl s Tb tv tr) (ht : tr.length < 64) (hh : A.handled = none)
    (h : ∀ s' (ac dn : Nat) ta td, 1 ≤ ac → ac ≤ wd + 1 → 1 ≤ dn → dn ≤ tr.length + 1 → Vs (lE L cd) s'.heap [("down", .int (dn : Int) td), ("across", .int (ac : Int) ta), ("table", .ref Tb), ("width", .int (wd : Int) tw)] → TabOk s' → Kp (Xl (lE L cd) s) s s' → wpAny (model prog w) A (execs ((sBody (fdef 8)).drop 7) (lE L cd)) Q E s') :
    wpAny (model prog w) A (execs ((sBody (fdef 8)).drop 5) (lE L cd)) Q E s := by
  have onk : ∀ {s' : Shared}, Kp (Xl (lE L cd) s) s s' → On H s' := fun k => On.xl G hO on k
  have hvl := hT.length
  refine wpAny_execs_cons (wpAny_Assign_Name (wpAny_BinOp (wpAny_Constant_int (wpAny_BinOp (wpAny_BinOp (sum_name G.g (on_heap on rfl) V rfl hl hi hh fun s₁ t1 k1 => wpAny_Constant_int (add_int ?_)))))))
  have k01 : Kp Nil s s₁ := k1.un
  have V1 := V.kp k01 fun _ q => q.elim
  refine wpAny_BinOp (V1.name rfl (wpAny_Constant_int (add_int (mod_int' (by omega) (add_int ?_)))))
  obtain ⟨m, hm, em⟩ := fmod_range (xs.sum + 1) (wd + 1) (by omega)
  rw [show ((wd : Int) + 1) = ((wd + 1 : Nat) : Int) by omega, em, show (1 : Int) + (m : Int) = ((1 + m : Nat) : Int) by omega]
  refine V1.put (xl_nil k01) (fun a q => .inl q) (fun s₂ V2 K2 k2 => ?_) (hc := fun _ => rfl)
  dsimp only
  have T1 : TabOk s₁ := T.nil k01
  have T2 : TabOk s₂ := T1.own V1 k2
  have hl2 : s₂.heap.IsList l vs.toArray := IsList.xl V T K2 hl
  have hT2 : Tbl s₂ Tb tv tr := hT.xl V T K2
  refine wpAny_execs_cons (wpAny_Assign_Name (wpAny_BinOp (wpAny_Constant_int (wpAny_BinOp (wpAny_BinOp (wpAny_BinOp (sum_name G.g (on_heap (onk K2) rfl) V2 rfl hl2 hi hh fun s₃ t3 k3 => ?_)))))))
  have k23 : Kp Nil s₂ s₃ := k3.un
  have V3 := V2.kp k23 fun _ q => q.elim
  have on3 : On H s₃ := (onk K2).kp k23 fun _ q => q.elim
  refine len_name G.g on3 V3 rfl (IsList.kp k23 (fun q => q) hl2) (by omega) fun s₄ t4 e41 e42 e43 => add_int (wpAny_Constant_int (add_int ?_))
  have V4 : Vs (lE L cd) s₄.heap _ := vs_heap V3 e41
  have on4 : On H s₄ := on_heap on3 e41
  have hT4 : Tbl s₄ Tb tv tr := (hT2.kp k23).heap e41
  refine wpAny_BinOp (len_name G.g (on_heap on4 rfl) V4 rfl hT4.ls.isList (by omega) fun s₅ t5 e51 e52 e53 => wpAny_Constant_int (add_int (mod_int' (by omega) (add_int ?_))))
  obtain ⟨m2, hm2, em2⟩ := fmod_range (xs.sum + (vs.length : Int) + 1) (tv.length + 1) (by omega)
  rw [show ((tv.length : Int) + 1) = ((tv.length + 1 : Nat) : Int) by omega, em2, show (1 : Int) + (m2 : Int) = ((1 + m2 : Nat) : Int) by omega]
  have V5 : Vs (lE L cd) s₅.heap _ := vs_heap V4 e51
  have k25 : Kp Nil s₂ s₅ := (k23.trans (kp_heap e41 e42 e43)).trans ((kp_heap (X := Nil) e51 e52 e53).un)
  refine V5.put (K2.trans (k25.mono fun _ q => q.elim)) (fun a q => .inl q) (fun s₆ V6 K6 k6 => ?_) (hc := fun _ => rfl)
  dsimp only
  exact h s₆ (1 + m) (1 + m2) _ _ (by omega) (by omega) (by omega) (by omega) (V6.weak ⟨rfl, rfl, rfl, rfl, trivial⟩) ((T2.nil k25).own V5 k6) K6
end
end Mine
end

section
open PySem PySem.W PySem.Calls PyProof.Rows
namespace Mine

theorem all2_of_get {α β : Type} {R : α → β → Prop} : ∀ {xs : List α} {bs : List β}, xs.length = bs.length → (∀ (i : Nat) (a : α) (b : β), xs[i]? = some a → bs[i]? = some b → R a b) → All2 R xs bs
  | [], [], _, _ => .nil
  | [], _ :: _, h, _ => by simp at h
  | _ :: _, [], h, _ => by simp at h
  | x :: xs, b :: bs, h, k => .cons (k 0 x b rfl rfl) (all2_of_get (by simpa using h) fun i a b e1 e2 => k (i + 1) a b e1 e2)
theorem all2_range {α β : Type} {R : α → β → Prop} {xs : List α} {bs : List β} (h : All2 (fun i b => ∃ a, xs[i]? = some a ∧ R a b) (List.range xs.length) bs) : All2 R xs bs := by
  have hl := h.length
  rw [List.length_range] at hl
  refine all2_of_get hl fun i a b e1 e2 => ?_
  obtain ⟨j, hj, a', e', r⟩ := h.get' e2
  have hij : j = i := by
    have := (List.getElem?_eq_some_iff.mp hj).2
    simpa using this.symm
  rw [hij, e1] at e'
  cases e'
  exact r

section
variable {prog : Program} {w : World} {A : Around} {E : Value → Shared → Prop} {s : Shared} {H : Heap}

theorem ff_of {L : Addr} {cd : Value} {bs : List (Str × Value)} (hO : ∀ a, Own (lE L cd) a → H.get? a = none) (V : Vs (lE L cd) s.heap bs) : s.heap.FunFrames H [lE L cd] := by
  refine ⟨(by show ScopeKind.function ≠ ScopeKind.module; decide), ?_, trivial⟩
  obtain ⟨m, ⟨o, es, ep, e, d, _⟩, _⟩ := V.ns
  exact ⟨L, o, rfl, hO L (.inl rfl), e, fun vs q => by rw [d] at q; cases q⟩

/-- rows = .. -/
theorem law7 {L : Addr} {cd : Value} {Tb : Addr} {tv : List Value} {tr : List (List Int)} {wd ac dn : Nat} {tw ta td : Tok} {Q : Flow → Shared → Prop} (G : GndL H) (hO : ∀ a, Own (lE L cd) a → H.get? a = none) (on : On H s)
    (V : Vs (lE L cd) s.heap [("down", .int (dn : Int) td), ("across", .int (ac : Int) ta), ("table", .ref Tb), ("width", .int (wd : Int) tw)]) (T : TabOk s) (hT : Tbl s Tb tv tr) (ht : tr.length < 64) (hw : ∀ row ∈ tr, row.length = wd) (hw2 : 2 ≤ wd) (hw8 : wd < 8) (ha1 : 1 ≤ ac) (ha2 : ac ≤ wd + 1)
    (hh : A.handled = none) (hfr : A.frames = some [lE L cd]) (hroom : A.depth + 60 < recursionLimit) (hu : A.units + 600 < cLine)
    (h : ∀ s' Rw rv rr, Tbl s' Rw rv rr → All2 (IsTop ac) tr rr → Vs (lE L cd) s'.heap [("rows", .ref Rw), ("down", .int (dn : Int) td), ("across", .int (ac : Int) ta), ("table", .ref Tb), ("width", .int (wd : Int) tw)] → TabOk s' → Kp (Xl (lE L cd) s) s s' → wpAny (model prog w) A (execs ((sBody (fdef 8)).drop 8) (lE L cd)) Q E s') :
    wpAny (model prog w) A (execs ((sBody (fdef 8)).drop 7) (lE L cd)) Q E s := by
  have hL : ∃ o, s.heap.get? L = some o := by obtain ⟨m, ⟨o, _, _, e, _⟩, _⟩ := V.ns; exact ⟨o, e⟩
  have hfs : ∀ a ∈ [(lE L cd).locals], ∃ o, s.heap.get? a = some o := fun a ha => by rw [List.mem_singleton.mp ha]; exact hL
  have n50 : 50 ∉ [(lE L cd).locals] := fun q => own_xc V T 50 (.inl rfl) (.inl (List.mem_singleton.mp q))
  have hvl := hT.length
  refine wpAny_execs_cons (wpAny_Assign_Name (range_val (R := RRow) (P := fun i ys => ∃ row, tr[i]? = some row ∧ IsTop ac row ys) (x0 := 0) (step := 1) (cnt := tr.length) (cs := [("across", .int (ac : Int) ta), ("table", .ref Tb)]) (cl := [("table", L + 4), ("across", L + 5)]) (fs := [(lE L cd).locals]) RRow.stable V T hfs n50 hh ht rfl ⟨rfl, rfl, trivial⟩ ⟨⟨rfl, rfl, rfl, rfl, rfl⟩, ⟨rfl, rfl, rfl, rfl, rfl⟩, trivial⟩ rfl ?iter (fun C => C) (fun C => .inl rfl) (fun C => Nat.le_refl _) (fun C s' v E' Q' V' h' => V'.putL rfl fun s'' V'' k => h' s'' V'' k) ?elt ?fin))
  case iter =>
    intro Q' hQ
    refine call_type G.g on (x := "range") (by decide) boot_range (spliced_cons ?_)
    refine len_name G.g on V rfl hT.ls.isList (by omega) fun s₁ t1 e1 e2 e3 => spliced_nil (call_range1 fun r s₂ t2 u2 hr hr2 k2 => ?_)
    have k02 : Kp Nil s s₂ := (kp_heap (X := Nil) e1 e2 e3).trans k2
    rw [hvl] at hr2
    exact iter_range1 hr2 (by omega) fun I s₃ hI hI3 k3 => hQ I s₃ hI3 (k02.none (fun q => q) hI) (k02.trans k3)
  case elt =>
    intro D C i s' tk E' Q' hic V' K' T' hD hD0 hQ
    have on' := on.xc G K' (hO L (.inl rfl))
    have hT' := hT.xc T K'
    have VE' : Vs (lE L cd) s'.heap _ := V.kf K' (own_xc V T)
    obtain ⟨row, hrow⟩ : ∃ row, tr[i]? = some row := ⟨_, List.getElem?_eq_getElem hic⟩
    obtain ⟨v, hv, r, us, rfl, hrl, hri⟩ := hT'.rows.get' hrow
    have hrlen : us.length = wd := by rw [hri.length]; exact hw row (List.mem_of_getElem? hrow)
    rw [show (0 : Int) + (i : Int) * 1 = (i : Int) by omega] at V'
    refine call_gl (st := fdef 7) G.g on' (x := "_law_few") rfl G.g.lawfew (spliced_cons (V'.name rfl (spliced_cons (wpAny_Subscript_Name slot_list_getitem.lookup (V'.name rfl (V'.name rfl ⟨hT'.ls.typeIs, pl_get (x := .ref r) hT'.ls (by omega) (by omega) (by simpa using hv) (spliced_cons (wpAny_BinOp (V'.name rfl (wpAny_Constant_int (mod_int' (by decide) (spliced_nil ⟨on', ?_⟩))))))⟩))))))
    have VE'' : Vs (lE L cd) ({ s' with toks := s'.toks + 1 + 1 } : Shared).heap _ := VE'
    refine few_call G on' T' hrl.isList hri (by omega) (by omega) ha1 (by omega) hh hfr (ff_of hO VE'') hroom hu fun s₂ D' ws ys hD' ls2 hi2 ht2 T2 k2 => ?_
    have k2 : KpF (· = 50) [(lE L cd).locals] s' s₂ := ⟨k2.k.un, k2.d⟩
    refine hQ _ ys s₂ ⟨D', ws, rfl, fun q => ?_, ls2, hi2⟩ ⟨row, hrow, ht2⟩ k2 T2
    obtain ⟨o, e⟩ := hD
    have hD'' : s'.heap.get? D' = none := hD'
    rw [q, e] at hD''; cases hD''
  case fin =>
    intro Rw s₁ ws rs got K1
    have V1 : Vs (lE L cd) s₁.heap _ := V.kf K1 (own_xc V T)
    refine V1.put (xc_xl K1) (fun a q => .inl q) (fun s₂ V2 K2 k2 => ?_) (hc := fun _ => rfl)
    dsimp only
    refine h s₂ Rw ws rs (Tbl.xl V1 got.T (xl_own k2) (Tbl.of got.ls got.r)) ?_ V2 (got.T.own V1 k2) K2
    exact all2_range got.p
end
end Mine
end

section
open PySem PySem.W PySem.Calls PyProof.Rows
namespace Mine

section
variable {prog : Program} {w : World} {A : Around} {E : Value → Shared → Prop} {s : Shared} {H : Heap}

theorem forIn_one {env : Env} {c : PySem.Expr} {Q : Bool → Shared → Prop} (h : wpAny (model prog w) A (isTrue c env (eval c env)) Q E s) :
    wpAny (model prog w) A (forIn [c] true fun c r => if r = true then do let ok ← isTrue c env (eval c env); pure (ForInStep.yield ok) else pure (ForInStep.yield r)) Q E s := by
  simp only [List.forIn_cons, List.forIn_nil, if_true]
  exact wpAny_bind (wpAny_bind (wpAny_mono h (fun ok s' h' => wpAny_pure (wpAny_pure h')) fun _ _ q => q))

/-- if [row for row in rows if ..] != []: return False -/
theorem law8 {L : Addr} {cd : Value} {Rw Tb : Addr} {rv : List Value} {rr : List (List Int)} {wd ac dn : Nat} {tw ta td : Tok} {Q : Flow → Shared → Prop} (G : GndL H) (hO : ∀ a, Own (lE L cd) a → H.get? a = none) (on : On H s)
    (V : Vs (lE L cd) s.heap [("rows", .ref Rw), ("down", .int (dn : Int) td), ("across", .int (ac : Int) ta), ("table", .ref Tb), ("width", .int (wd : Int) tw)]) (T : TabOk s) (hR : Tbl s Rw rv rr) (ht : rr.length < 64) (hw : ∀ row ∈ rr, row.length = min ac wd) (hw8 : wd < 8) (hh : A.handled = none) (hu : A.units + 600 < cLine)
    (h : ∀ s', Vs (lE L cd) s'.heap [("rows", .ref Rw), ("down", .int (dn : Int) td), ("across", .int (ac : Int) ta), ("table", .ref Tb), ("width", .int (wd : Int) tw)] → TabOk s' → Kp (Xl (lE L cd) s) s s' → wpAny (model prog w) A (execs ((sBody (fdef 8)).drop 9) (lE L cd)) Q E s') :
    wpAny (model prog w) A (execs ((sBody (fdef 8)).drop 8) (lE L cd)) Q E s := by
  have hL : ∃ o, s.heap.get? L = some o := by obtain ⟨m, ⟨o, _, _, e, _⟩, _⟩ := V.ns; exact ⟨o, e⟩
  have hfs : ∀ a ∈ [(lE L cd).locals], ∃ o, s.heap.get? a = some o := fun a ha => by rw [List.mem_singleton.mp ha]; exact hL
  have n50 : 50 ∉ [(lE L cd).locals] := fun q => own_xc V T 50 (.inl rfl) (.inl (List.mem_singleton.mp q))
  have hvl := hR.length
  refine wpAny_execs_cons (wpAny_If (wpAny_isTrue_Compare1 (list_val (R := RAny) (P := fun _ _ => True) (cnd := fun _ => false) (cs := [("across", .int (ac : Int) ta), ("width", .int (wd : Int) tw)]) (cl := [("width", L + 3), ("across", L + 5)]) (fs := [(lE L cd).locals]) RAny.stable V T hfs n50 hh hR.ls.isList (by omega) rfl ⟨rfl, rfl, trivial⟩ ⟨⟨rfl, rfl, rfl, rfl, rfl⟩, ⟨rfl, rfl, rfl, rfl, rfl⟩, trivial⟩ rfl (fun Q' hQ => V.name rfl hQ) (fun C => rfl) ?cond ?elt ?fin)))
  case cond =>
    intro C i v s' E' Q' hv V' K' T' hQ
    have on' := on.xc G K' (hO L (.inl rfl))
    obtain ⟨row, hrow, r, us, rfl, hrl, hri⟩ := (hR.xc T K').rows.get hv
    have hrlen : us.length = min ac wd := by rw [hri.length]; exact hw row (List.mem_of_getElem? hrow)
    refine forIn_one (wpAny_isTrue_Compare1 (len_name G.g on' V' rfl hrl.isList (by omega) fun s₁ t1 e1 e2 e3 => ?_))
    have V1 : Vs _ s₁.heap _ := vs_heap V' e1
    refine call_min2 G.g (on_heap on' e1) hh (spliced_cons (V1.name rfl (spliced_cons (V1.name rfl (spliced_nil ⟨ac, wd, ta, tw, rfl, fun s₂ t2 k2 => ne_int (wpAny_truthy_bool ?_)⟩)))))
    have e : ((us.length : Int) != min (ac : Int) (wd : Int)) = false := by
      rw [hrlen]
      simp only [bne_eq_false_iff_eq]
      omega
    rw [e]
    have k02 := (kp_heap (X := Nil) e1 e2 e3).trans k2
    exact hQ s₂ (kf_nil k02 n50) (T'.nil k02)
  case elt =>
    intro D C i v s' E' Q' hv hc
    cases hc
  case fin =>
    intro D s₁ ws rs got K1
    have hp := got.p
    have hfl : (List.range rv.length).filter (fun _ => false) = [] := List.filter_eq_nil_iff.mpr fun _ _ => by simp
    rw [hfl] at hp
    cases hp
    have hr := got.r
    cases hr
    have V1 : Vs (lE L cd) s₁.heap _ := V.kf K1 (own_xc V T)
    refine List_ (spliced_nil (mk_list (fun D2 s₂ hD2 hD22 k2 => ?_) (by show 0 ≤ sizeLine; omega)))
    refine ke_ne_ints (PL.kp k2 (fun q => q) got.ls).isList (ys := []) ⟨_, hD22, rfl, 0, rfl⟩ .nil .nil (by omega) (wpAny_truthy_bool ?_)
    rw [if_neg (by simp)]
    refine wpAny_execs_nil ?_
    dsimp only
    exact h s₂ (V1.kp k2 fun _ q => q.elim) (got.T.nil k2) ((xc_xl K1).trans (k2.mono fun _ q => q.elim))
end
end Mine
end

section
open PySem PySem.W PySem.Calls PyProof.Rows
namespace Mine

section
variable {M : Model} {A : Around} {E : Value → Shared → Prop} {s : Shared} {env : Env} {bs : List (Str × Value)}
/-- a cell stored -/
theorem Vs.putC {x : Str} {v : Value} {c : Addr} {sp : Shared} {Q : Unit → Shared → Prop} (V : Vs env sp.heap bs) (hk : env.kindOf x = some .cell) (hc : env.cells.lookup x = some c)
    (h : ∀ s', Vs env s'.heap ((x, v) :: bs) → Kp (· = c) sp s' → Q () s') (hf : env.scope.kind = .function := by rfl) (hh : s.heap = sp.heap := by rfl) (hg : s.gens = sp.gens := by rfl) (ho : s.os = sp.os := by rfl) : wpAny M A (storeName env x v) Q E s := by
  rw [← hh] at V
  obtain ⟨v0, hv0⟩ := V.cells x c hc
  refine wpAny_storeName_cell hf hk hc hv0 fun h' hn hs => ?_
  have k := Kp.same (X := (· = c)) (t := s.toks) hs rfl
  refine h { s with heap := h', toks := s.toks } ⟨?_, fun y u hy hky => ?_, fun y c' hc' => ?_, V.inj⟩ (k.un hh hg ho)
  · obtain ⟨ml, a, b⟩ := V.ns
    refine ⟨ml, a.sameBut hs (cell_ne_ns a hv0).symm, fun y u hy hky => b y u ?_ hky⟩
    have : (y == x) = false := by
      cases hb : y == x with
      | false => rfl
      | true => rw [eq_of_beq hb, hk] at hky; cases hky
    rw [List.lookup_cons, this] at hy
    exact hy
  · rw [List.lookup_cons] at hy
    cases hb : y == x with
    | true => rw [hb] at hy; cases hy; rw [eq_of_beq hb]; exact ⟨c, hc, hn⟩
    | false =>
      rw [hb] at hy
      obtain ⟨c', hc', o, e1, d⟩ := V.cl y u hy hky
      have : c' ≠ c := fun q => by
        rw [q] at hc'
        have := V.inj _ _ _ hc' hc
        rw [this] at hb; simp at hb
      exact ⟨c', hc', o, (hs.2 c' this).trans e1, d⟩
  · by_cases q : c' = c
    · subst q; exact ⟨_, hn⟩
    · obtain ⟨v1, o, e1, d⟩ := V.cells y c' hc'
      exact ⟨v1, o, (hs.2 c' q).trans e1, d⟩
end

theorem all2_eq {α β : Type} {f : α → β} {xs : List α} {bs : List β} (h : All2 (fun a b => b = f a) xs bs) : bs = xs.map f := by
  induction h with
  | nil => rfl
  | cons r _ ih => rw [List.map_cons, r, ih]

section
variable {prog : Program} {w : World} {A : Around} {E : Value → Shared → Prop} {s : Shared} {H : Heap}

/-- columns = .. -/
theorem law9 {L : Addr} {cd : Value} {Rw Tb : Addr} {rv : List Value} {rr : List (List Int)} {wd ac dn : Nat} {tw ta td : Tok} {Q : Flow → Shared → Prop} (G : GndL H) (hO : ∀ a, Own (lE L cd) a → H.get? a = none) (on : On H s)
    (V : Vs (lE L cd) s.heap [("rows", .ref Rw), ("down", .int (dn : Int) td), ("across", .int (ac : Int) ta), ("table", .ref Tb), ("width", .int (wd : Int) tw)]) (T : TabOk s) (hR : Tbl s Rw rv rr) (ht2 : 2 ≤ rr.length) (ht : rr.length < 62) (hw : ∀ row ∈ rr, row.length = min ac wd) (hw8 : wd < 8) (hd1 : 1 ≤ dn) (hd2 : dn ≤ rr.length + 1)
    (hh : A.handled = none) (hfr : A.frames = some [lE L cd]) (hroom : A.depth + 60 < recursionLimit) (hu : A.units + 600 < cLine)
    (h : ∀ s' Cl cv cc, Tbl s' Cl cv cc → cc.length = min ac wd → (∀ (j : Nat) (col : List Int), cc[j]? = some col → IsTop dn (rr.map fun row => row.getD j 0) col) → Vs (lE L cd) s'.heap [("columns", .ref Cl), ("down", .int (dn : Int) td), ("table", .ref Tb)] → TabOk s' → Kp (Xl (lE L cd) s) s s' → wpAny (model prog w) A (execs ((sBody (fdef 8)).drop 10) (lE L cd)) Q E s') :
    wpAny (model prog w) A (execs ((sBody (fdef 8)).drop 9) (lE L cd)) Q E s := by
  have hvl := hR.length
  have n50 : 50 ∉ [(lE L cd).locals] := fun q => own_xc V T 50 (.inl rfl) (.inl (List.mem_singleton.mp q))
  have hL : ∃ o, s.heap.get? L = some o := by obtain ⟨m, ⟨o, _, _, e, _⟩, _⟩ := V.ns; exact ⟨o, e⟩
  have hfs : ∀ a ∈ [(lE L cd).locals], ∃ o, s.heap.get? a = some o := fun a ha => by rw [List.mem_singleton.mp ha]; exact hL
  refine wpAny_execs_cons (range_put (R := RRow) (P := fun j col => IsTop dn (rr.map fun row => row.getD j 0) col) (x0 := 0) (step := 1) (cnt := min ac wd) (cs := [("down", .int (dn : Int) td), ("rows", .ref Rw)]) (cl := [("rows", L + 7), ("down", L + 6)]) rfl RRow.stable V T hh (by omega) rfl ⟨rfl, rfl, trivial⟩ ⟨⟨rfl, rfl, rfl, rfl, rfl⟩, ⟨rfl, rfl, rfl, rfl, rfl⟩, trivial⟩ rfl rfl rfl ?iter (fun C => C + 1) (fun C => .inr ⟨"j", rfl⟩) (fun C => Nat.le_succ _) (fun C s' v E' Q' V' h' => V'.putC rfl rfl fun s'' V'' k => h' s'' V'' k) ?elt ?fin)
  case iter =>
    intro Q' hQ
    refine call_type G.g on (x := "range") (by decide) boot_range (spliced_cons (call_min2 G.g on hh (spliced_cons (V.name rfl (spliced_cons (V.name rfl (spliced_nil ⟨ac, wd, ta, tw, rfl, fun s₁ t1 k1 => spliced_nil ?_⟩)))))))
    rw [show (min (ac : Int) (wd : Int)) = ((min ac wd : Nat) : Int) by omega]
    exact call_range1 fun r s₂ t2 u2 hr hr2 k2 => iter_range1 hr2 (by omega) fun I s₃ hI hI3 k3 => hQ I s₃ hI3 ((k1.trans k2).none (fun q => q) hI) ((k1.trans k2).trans k3)
  case elt =>
    intro D C j s' tk E' Q' hjc V' K' T' hD hD0 hQ
    have on' := on.xc G K' (hO L (.inl rfl))
    have hR' := hR.xc T K'
    rw [show (0 : Int) + (j : Int) * 1 = (j : Int) by omega] at V'
    have hfs' : ∀ a ∈ [(lE L cd).locals], ∃ o, s'.heap.get? a = some o := fun a ha => by
      obtain ⟨o, e⟩ := hfs a ha
      obtain ⟨sl, e'⟩ := K'.d a ha o e
      exact ⟨_, e'⟩
    have D50 : D ≠ 50 := fun q => by
      obtain ⟨ps, e50, _⟩ := T
      rw [q, e50] at hD0; cases hD0
    refine call_gl (st := fdef 7) G.g on' (x := "_law_few") rfl G.g.lawfew (spliced_cons (V'.name rfl (spliced_cons (list_val (R := RInt) (P := fun i b => ∃ row, rr[i]? = some row ∧ b = row.getD j 0) (cnd := fun _ => true) (cs := [("j", .int (j : Int) tk)]) (cl := [("j", C + 1)]) (fs := [(lE L cd).locals]) RInt.stable V' T' hfs' n50 hh hR'.ls.isList (by omega) rfl ⟨rfl, trivial⟩ ⟨⟨rfl, rfl, rfl, rfl, rfl⟩, trivial⟩ rfl (fun Q' hQ => V'.name rfl hQ) (fun C => rfl) ?c2 ?e2 ?f2))))
    case c2 =>
      intro C2 i v s2 E2 Q2 hv V2 K2 T2 hQ2
      simp only [List.forIn_nil]
      exact wpAny_pure (hQ2 s2 (kf_nil Kp.rfl' n50) T2)
    case e2 =>
      intro D2 C2 i v s2 E2 Q2 hv _ V2 K2 T2 hD2 hD20 hQ2
      obtain ⟨row, hrow, r, us, rfl, hrl, hri⟩ := (hR'.xc T' K2).rows.get hv
      have hrlen : row.length = min ac wd := hw row (List.mem_of_getElem? hrow)
      have hul := hri.length
      have hju : j < us.length := by omega
      have huj : us[j]? = some us[j] := List.getElem?_eq_getElem hju
      obtain ⟨x, t, hx⟩ := hri.all _ (List.mem_of_getElem? huj)
      refine wpAny_Subscript_Name slot_list_getitem.lookup (V2.name rfl (V2.name rfl ⟨hrl.typeIs, pl_get (x := us[j]) hrl (by omega) (by omega) (by simpa using huj) ?_⟩))
      rw [hx]
      refine hQ2 _ x s2 ⟨t, rfl⟩ ⟨row, hrow, ?_⟩ Kp.rfl'
      have hn := hri.nums
      rw [← hn, List.getD_eq_getElem?_getD, List.getElem?_map, huj, hx]
      rfl
    case f2 =>
      intro D2 s₂ ws rs got K2
      have K2' : KpF (· = 50) [(lE L cd).locals] s' s₂ := K2.fresh fun c q => q
      have V2 : Vs (compE _ _ C (lE L cd)) s₂.heap _ := V'.kf K2 (own_xc V' T')
      have on2 : On H s₂ := on'.xc G K2 (hO L (.inl rfl))
      have VE2 : Vs (lE L cd) s₂.heap _ := (V.kf K' (own_xc V T)).kf K2' fun a q o => by
        obtain ⟨ps, e50, _⟩ := id T'
        exact own_fields (V.kf K' (own_xc V T)) e50 rfl (q ▸ o)
      have hp := got.p
      rw [List.filter_eq_self.mpr (fun _ _ => rfl), hvl] at hp
      have hrs : rs = rr.map fun row => row.getD j 0 := all2_eq (all2_range hp)
      have hwi := ints_of_all2 got.r
      have hwl := hwi.length
      have hrl : rs.length = rr.length := by rw [hrs]; simp
      refine spliced_cons (wpAny_BinOp (wpAny_BinOp (V2.name rfl (V2.name rfl (add_int (wpAny_Constant_int (mod_int' (by decide) (spliced_nil ⟨on2, ?_⟩))))))))
      refine few_call G (on_heap on2 rfl) got.T got.ls.isList hwi (by omega) (by omega) hd1 (by omega) hh hfr (ff_of hO (vs_heap VE2 rfl)) hroom hu fun s₃ D3 us ys hD3 ls3 hi3 ht3 T3 k3 => ?_
      have k3 : KpF (· = 50) [(lE L cd).locals] s₂ s₃ := ⟨k3.k.un, k3.d⟩
      refine hQ _ ys s₃ ⟨D3, us, rfl, fun q => ?_, ls3, hi3⟩ (by rw [← hrs]; exact ht3) (K2'.trans k3) T3
      obtain ⟨o, e⟩ := hD
      obtain ⟨sl, e2⟩ := K2'.get (fun q => D50 q) e
      have hD3' : s₂.heap.get? D3 = none := hD3
      rw [q, e2] at hD3'; cases hD3'
  case fin =>
    intro Cl s₁ ws rs got V1 K1
    refine h s₁ Cl ws rs (Tbl.of got.ls got.r) (by rw [← got.p.length]; simp) (fun j col hj => ?_) (V1.weak ⟨rfl, rfl, rfl, trivial⟩) got.T K1
    obtain ⟨a, ha, r⟩ := got.p.get' hj
    have : a = j := by
      have := (List.getElem?_eq_some_iff.mp ha).2
      simpa using this.symm
    rwa [this] at r
end
end Mine
end

section
open PySem PySem.W PySem.Calls PyProof.Rows
namespace Mine

theorem countP_take {p : Int → Bool} (hp : ∀ a b, p a = true → a ≤ b → p b = true) : ∀ {ys : List Int} {j : Nat} {y : Int}, ys.Pairwise (fun a b => b ≤ a) → ys[j]? = some y → (p y = true → j < ys.countP p) ∧ (p y = false → ys.countP p ≤ j)
  | [], _, _, _, e => by cases e
  | x :: ys, 0, y, hd, e => by
    cases e
    refine ⟨fun h => by rw [List.countP_cons, if_pos h]; omega, fun h => ?_⟩
    have h0 : ys.countP p = 0 := List.countP_eq_zero.mpr fun z hz => by
      have := (List.pairwise_cons.mp hd).1 z hz
      intro q
      rw [hp _ _ q this] at h; cases h
    rw [List.countP_cons, h0, h]; simp
  | x :: ys, j + 1, y, hd, e => by
    have ih := countP_take hp (List.pairwise_cons.mp hd).2 (j := j) e
    refine ⟨fun h => ?_, fun h => ?_⟩
    · have hx : p x = true := hp _ _ h ((List.pairwise_cons.mp hd).1 y (List.mem_of_getElem? e))
      rw [List.countP_cons, if_pos hx]
      have := ih.1 h
      omega
    · rw [List.countP_cons]
      have := ih.2 h
      split <;> omega
/-- the j-th of the largest, and the counts -/
theorem top_count {n : Nat} {xs ys : List Int} {p : Int → Bool} (hp : ∀ a b, p a = true → a ≤ b → p b = true) (T : IsTop n xs ys) {j : Nat} {y : Int} (hj : ys[j]? = some y) : j < xs.countP p ↔ p y = true := by
  obtain ⟨zs, perm, hz⟩ := T.rest
  have hc := perm.countP_eq p
  rw [List.countP_append] at hc
  have h1 := countP_take hp T.desc hj
  have hy := List.mem_of_getElem? hj
  cases h : p y with
  | true => have := h1.1 h; constructor <;> intro _ <;> first | rfl | omega
  | false =>
    have h2 := h1.2 h
    have h0 : zs.countP p = 0 := List.countP_eq_zero.mpr fun z hz' => by
      intro q
      rw [hp _ _ q (hz y hy z hz')] at h; cases h
    constructor
    · intro q; omega
    · intro q; cases q

def gt (v : Int) (x : Int) : Bool := decide (v < x)
def ge (v : Int) (x : Int) : Bool := decide (v ≤ x)
theorem gt_up (v : Int) : ∀ a b, gt v a = true → a ≤ b → gt v b = true := fun a b h hab => by unfold gt at *; simp only [decide_eq_true_eq] at *; omega
theorem ge_up (v : Int) : ∀ a b, ge v a = true → a ≤ b → ge v b = true := fun a b h hab => by unfold ge at *; simp only [decide_eq_true_eq] at *; omega

/-- over the rows: so many have more than j items with p as the j-th column has with p -/
theorem rows_count {ac : Nat} {p : Int → Bool} (hp : ∀ a b, p a = true → a ≤ b → p b = true) {j : Nat} : ∀ {tr rr : List (List Int)}, All2 (IsTop ac) tr rr → (∀ row ∈ rr, j < row.length) → tr.countP (fun row => decide (j < row.countP p)) = (rr.map fun row => row.getD j 0).countP p
  | _, _, .nil, _ => rfl
  | _, _, .cons (a := t) (b := r) (as := tr) (bs := rr) h hs, hj => by
    have ih := rows_count hp hs fun row hr => hj row (.tail _ hr)
    have hjr := hj r (.head _)
    have he : r[j]? = some (r.getD j 0) := by rw [List.getD_eq_getElem?_getD, List.getElem?_eq_getElem hjr]; rfl
    have hc := top_count hp h he
    rw [List.countP_cons, List.map_cons, List.countP_cons, ih]
    congr 1
    by_cases q : p (r.getD j 0) = true
    · rw [if_pos q, if_pos (by simpa using hc.mpr q)]
    · rw [if_neg q, if_neg (by simpa using fun z => q (hc.mp z))]

theorem col_ge {ac : Nat} {p : Int → Bool} (hp : ∀ a b, p a = true → a ≤ b → p b = true) {j : Nat} : ∀ {tr rr : List (List Int)}, All2 (IsTop ac) tr rr → (∀ row ∈ rr, j + 1 < row.length) → (rr.map fun row => row.getD (j + 1) 0).countP p ≤ (rr.map fun row => row.getD j 0).countP p
  | _, _, .nil, _ => Nat.le_refl _
  | _, _, .cons (a := t) (b := r) (as := tr) (bs := rr) h hs, hj => by
    have ih := col_ge hp hs fun row hr => hj row (.tail _ hr)
    have hjr := hj r (.head _)
    have e1 : r[j]'(by omega) = r.getD j 0 := by simp [List.getD_eq_getElem?_getD, List.getElem?_eq_getElem (show j < r.length by omega)]
    have e2 : r[j + 1] = r.getD (j + 1) 0 := by simp [List.getD_eq_getElem?_getD, List.getElem?_eq_getElem hjr]
    have hle : r.getD (j + 1) 0 ≤ r.getD j 0 := by
      have := List.pairwise_iff_getElem.mp h.desc j (j + 1) (by omega) hjr (by omega)
      rwa [e1, e2] at this
    rw [List.map_cons, List.map_cons, List.countP_cons, List.countP_cons]
    by_cases q : p (r.getD (j + 1) 0) = true
    · rw [if_pos q, if_pos (hp _ _ q hle)]; omega
    · rw [if_neg q]; split <;> omega

/-- what the loops of law ask -/
structure Told (tr : List (List Int)) (cc : List (List Int)) (dn : Nat) : Prop where
  len : ∀ (j : Nat) (col : List Int), cc[j]? = some col → col.length = min dn tr.length
  fall : ∀ (j i : Nat) (col col' : List Int) (v v' : Int), cc[j + 1]? = some col → cc[j]? = some col' → col[i]? = some v → col'[i]? = some v' → v ≤ v'
  above : ∀ (j i : Nat) (col : List Int) (v : Int), cc[j]? = some col → col[i]? = some v → tr.countP (fun row => decide (j < row.countP (gt v))) ≤ i
  level : ∀ (j i : Nat) (col : List Int) (v : Int), cc[j]? = some col → col[i]? = some v → i < tr.countP (fun row => decide (j < row.countP (ge v)))

theorem told {tr rr cc : List (List Int)} {ac dn m : Nat} (hr : All2 (IsTop ac) tr rr) (hm : ∀ row ∈ rr, row.length = m) (hcl : cc.length = m) (hc : ∀ (j : Nat) (col : List Int), cc[j]? = some col → IsTop dn (rr.map fun row => row.getD j 0) col) : Told tr cc dn where
  len := fun j col hj => by
    have := (hc j col hj).len
    rw [List.length_map, ← hr.length] at this
    exact this
  fall := fun j i col col' v v' hj hj' hv hv' => by
    have hjm : j + 1 < m := by rw [← hcl]; exact (List.getElem?_eq_some_iff.mp hj).1
    have h1 := (top_count (ge_up v) (hc _ _ hj) hv).mpr (by unfold ge; simp)
    have h2 := col_ge (ge_up v) (j := j) hr fun row hrow => by rw [hm row hrow]; exact hjm
    have h3 := (top_count (ge_up v) (hc _ _ hj') hv').mp (by omega)
    unfold ge at h3
    simpa using h3
  above := fun j i col v hj hv => by
    have hjm : j < m := by rw [← hcl]; exact (List.getElem?_eq_some_iff.mp hj).1
    rw [rows_count (gt_up v) hr fun row hrow => by rw [hm row hrow]; exact hjm]
    have := top_count (gt_up v) (hc _ _ hj) hv
    have h0 : ¬ gt v v = true := by unfold gt; simp
    exact Nat.le_of_not_lt fun q => h0 (this.mp q)
  level := fun j i col v hj hv => by
    have hjm : j < m := by rw [← hcl]; exact (List.getElem?_eq_some_iff.mp hj).1
    rw [rows_count (ge_up v) hr fun row hrow => by rw [hm row hrow]; exact hjm]
    exact (top_count (ge_up v) (hc _ _ hj) hv).mpr (by unfold ge; simp)
end Mine
end

section
open PySem PySem.W PySem.Calls PyProof.Rows
namespace Mine

theorem count_idx {α : Type} (d : α) (q : α → Bool) (xs : List α) : ((List.range xs.length).filter fun i => q (xs.getD i d)).length = xs.countP q := by
  have e : xs = (List.range xs.length).map fun i => xs.getD i d := by
    apply List.ext_getElem
    · simp
    · intro i h1 h2
      simp only [List.getElem_map, List.getElem_range]
      rw [List.getD_eq_getElem?_getD, List.getElem?_eq_getElem h1]; rfl
  conv => rhs; rw [e, List.countP_map]
  rw [List.countP_eq_length_filter]; rfl

abbrev scF1 : Scope := { kind := .function, names := [(Str.ofString ".0", .local), (Str.ofString "row", .local), (Str.ofString "len", .globalImplicit), (Str.ofString "j", .free), (Str.ofString "told", .free)], isGenerator := false, isCoroutine := false, more := [] }
abbrev scF2 : Scope := { kind := .function, names := [(Str.ofString ".0", .local), (Str.ofString "x", .local), (Str.ofString "told", .free)], isGenerator := false, isCoroutine := false, more := [] }

section
variable {prog : Program} {w : World} {A : Around} {E : Value → Shared → Prop} {s : Shared} {H : Heap}

/-- y = [row for row in table if len([x for x in row if x op told]) > j] -/
theorem filt {L : Addr} {cd : Value} {y : Str} {op : CmpOp} {p : Int → Int → Bool} {Tb : Addr} {tv : List Value} {tr : List (List Int)} {wd j : Nat} {v : Int} {tj tt : Tok} {bs : List (Str × Value)} {py p1 p2 p3 p4 p5 p6 p7 p8 p9 p10 p11 p12 p13 p14 pos spos : Pos} {Q : Flow → Shared → Prop} (G : GndL H) (hO : ∀ a, Own (lE L cd) a → H.get? a = none) (on : On H s)
    (V : Vs (lE L cd) s.heap bs) (T : TabOk s) (hT : Tbl s Tb tv tr) (ht : tr.length < 64) (hw : ∀ row ∈ tr, row.length = wd) (hw8 : wd < 8) (hh : A.handled = none)
    (hbt : bs.lookup ("table" : Str) = some (.ref Tb)) (hbj : bs.lookup ("j" : Str) = some (.int (j : Int) tj)) (hbv : bs.lookup ("told" : Str) = some (.int v tt))
    (hop : ∀ (x : Int) (tx : Tok) (s' : Shared) (E' : Value → Shared → Prop) (Q' : Value → Shared → Prop), Q' (.bool (p v x)) s' → wpAny (model prog w) A (compareOp op (.int x tx) (.int v tt)) Q' E' s') (hmk : behindInMarks op (.Name ("told" : Str) p8) = false)
    (hsw : swapsWith (.ListComp (.Name "row" p1) [⟨.Name "row" p2, .Name "table" p3, [.Compare (.Call (.Name "len" p4) [.ListComp (.Name "x" p5) [⟨.Name "x" p6, .Name "row" p7, [.Compare (.Name "x" p9) [op] [.Name "told" p8] p10], 0⟩] scF2 p11] [] p12) [.Gt] [.Name "j" p13] p14], 0⟩] scF1 pos) (some (.Name y py)) spos.line (lE L cd) = pure true)
    (hky : (lE L cd).kindOf y = some .local)
    (h : ∀ D s' ws, PL s'.heap D ws → ws.length = tr.countP (fun row => decide (j < row.countP (p v))) → Vs (lE L cd) s'.heap ((y, .ref D) :: bs) → TabOk s' → Kp (Xl (lE L cd) s) s s' → Q .next s') :
    wpAny (model prog w) A (exec (.Assign [.Name y py] (.ListComp (.Name "row" p1) [⟨.Name "row" p2, .Name "table" p3, [.Compare (.Call (.Name "len" p4) [.ListComp (.Name "x" p5) [⟨.Name "x" p6, .Name "row" p7, [.Compare (.Name "x" p9) [op] [.Name "told" p8] p10], 0⟩] scF2 p11] [] p12) [.Gt] [.Name "j" p13] p14], 0⟩] scF1 pos) spos) (lE L cd)) Q E s := by
  have hvl := hT.length
  have n50 : 50 ∉ [(lE L cd).locals] := fun q => own_xc V T 50 (.inl rfl) (.inl (List.mem_singleton.mp q))
  have hL : ∃ o, s.heap.get? L = some o := by obtain ⟨m, ⟨o, _, _, e, _⟩, _⟩ := V.ns; exact ⟨o, e⟩
  have hfs : ∀ a ∈ [(lE L cd).locals], ∃ o, s.heap.get? a = some o := fun a ha => by rw [List.mem_singleton.mp ha]; exact hL
  refine list_put' (R := RAny) (P := fun _ _ => True) (cnd := fun i => decide (j < (tr.getD i []).countP (p v))) (cs := [("j", .int (j : Int) tj), ("told", .int v tt)]) (cl := [("told", L + 9), ("j", L + 8)]) hsw RAny.stable V T hh hT.ls.isList (by omega) rfl ⟨rfl, rfl, trivial⟩ ⟨⟨rfl, rfl, hbj, rfl, rfl⟩, ⟨rfl, rfl, hbv, rfl, rfl⟩, trivial⟩ rfl hky rfl (fun Q' hQ => V.name hbt hQ) (fun C => rfl) ?cond ?elt ?fin
  case elt =>
    intro D C i u s' E' Q' hu _ V' K' T' hD hD0 hQ
    exact V'.name rfl (hQ _ () s' trivial trivial Kp.rfl')
  case fin =>
    intro D s₁ ws rs got V1 K1
    refine h D s₁ ws got.ls ?_ V1 got.T K1
    rw [got.r.length, ← got.p.length, hvl]
    exact count_idx [] (fun row => decide (j < row.countP (p v))) tr
  case cond =>
    intro C i u s' E' Q' hu V' K' T' hQ
    have on' := on.xc G K' (hO L (.inl rfl))
    obtain ⟨row, hrow, r, us, rfl, hrl, hri⟩ := (hT.xc T K').rows.get hu
    have hrlen : row.length = wd := hw row (List.mem_of_getElem? hrow)
    have hul := hri.length
    have hrg : tr.getD i [] = row := by rw [List.getD_eq_getElem?_getD, hrow]; rfl
    have hfs' : ∀ a ∈ [(lE L cd).locals], ∃ o, s'.heap.get? a = some o := fun a ha => by
      obtain ⟨o, e⟩ := hfs a ha
      obtain ⟨sl, e'⟩ := K'.d a ha o e
      exact ⟨_, e'⟩
    refine forIn_one (wpAny_isTrue_Compare1 (call_one G.g on' (x := "len") (by decide) boot_len (list_val (R := RAny) (P := fun _ _ => True) (cnd := fun k => p v (row.getD k 0)) (cs := [("told", .int v tt)]) (cl := [("told", L + 9)]) (fs := [(lE L cd).locals]) RAny.stable V' T' hfs' n50 hh hrl.isList (by omega) rfl ⟨rfl, trivial⟩ ⟨⟨rfl, rfl, rfl, rfl, rfl⟩, trivial⟩ rfl (fun Q' hQ => V'.name rfl hQ) (fun C => rfl) ?c2 ?e2 ?f2)))
    case c2 =>
      intro C2 k u2 s2 E2 Q2 hu2 V2 K2 T2 hQ2
      obtain ⟨x, tx, rfl⟩ := hri.all u2 (List.mem_of_getElem? hu2)
      have hx : row.getD k 0 = x := by
        rw [← hri.nums, List.getD_eq_getElem?_getD, List.getElem?_map, hu2]; rfl
      refine forIn_one (wpAny_isTrue_Compare1 (V2.name rfl (V2.name rfl (hop x tx _ _ _ (wpAny_truthy_bool ?_)))) hmk)
      rw [← hx]
      exact hQ2 s2 (kf_nil Kp.rfl' n50) T2
    case e2 =>
      intro D2 C2 k u2 s2 E2 Q2 hu2 _ V2 K2 T2 hD2 hD20 hQ2
      exact V2.name rfl (hQ2 _ () s2 trivial trivial Kp.rfl')
    case f2 =>
      intro D2 s₂ ws rs got K2
      have K2' : KpF (· = 50) [(lE L cd).locals] s' s₂ := K2.fresh fun c q => q
      have V2 : Vs (compE _ _ C (lE L cd)) s₂.heap _ := V'.kf K2 (own_xc V' T')
      have hwl : ws.length = row.countP (p v) := by
        rw [got.r.length, ← got.p.length, show us.length = row.length from hul]
        exact count_idx 0 (p v) row
      have hcl := List.countP_le_length (p := p v) (l := row)
      refine len_list got.ls.isList (by simp; omega) (V2.name rfl (gt_int (wpAny_truthy_bool ?_)))
      have e : decide ((j : Int) < (ws.toArray.size : Int)) = decide (j < (tr.getD i []).countP (p v)) := by
        rw [hrg, ← hwl]; simp
      rw [e]
      exact hQ _ ⟨K2'.k.trans (Kp.toks _), K2'.d⟩ got.T
end
end Mine
end

section
open PySem PySem.W PySem.Calls PyProof.Rows
namespace Mine

theorem rng_xl {env : Env} {s s' : Shared} {bs : List (Str × Value)} {I : Addr} {x n st : Int} (V : Vs env s.heap bs) (T : TabOk s) (k : Kp (Xl env s) s s') (h : IsRangeIter s.heap I x n st) : IsRangeIter s'.heap I x n st := k.keep _ _ (fun q => by
  rcases q with q | q | q
  · exact own_fields V h rfl q
  · obtain ⟨ps, e50, _⟩ := T
    have z : s.heap.get? I = _ := h
    rw [q, e50] at z; cases z
  · have z : s.heap.get? I = _ := h
    rw [q] at z; cases z) h

section
variable {prog : Program} {w : World} {A : Around} {E : Value → Shared → Prop} {s : Shared} {H : Heap}

/-- for x in range(..): -/
theorem for_range {env : Env} {bs : List (Str × Value)} {x : Str} {px pos : Pos} {iter : PySem.Expr} {body : List Stmt} {n : Nat} {Q : Flow → Shared → Prop} (hiter : ∀ (Q' : Value → Shared → Prop), (∀ I s₂, IsRangeIter s₂.heap I 0 n 1 → s.heap.get? I = none → Kp Nil s s₂ → Q' (.ref I) s₂) → wpAny (model prog w) A (eval iter env) (fun xv s₁ => wpAny (model prog w) A (pyIter xv) Q' E s₁) E s)
    (V : Vs env s.heap bs) (T : TabOk s) (hh : A.handled = none) (hx : bs.lookup x = none)
    (hput : ∀ (s' : Shared) (v : Value) (E' : Value → Shared → Prop) (Q' : Unit → Shared → Prop), Vs env s'.heap bs → (∀ s'', Vs env s''.heap ((x, v) :: bs) → Kp (Own env) s' s'' → Q' () s'') → wpAny (model prog w) A (storeName env x v) Q' E' s')
    (hbody : ∀ (i : Nat) (t : Tok) (s' : Shared) (E' : Value → Shared → Prop) (Q' : Flow → Shared → Prop), i < n → Vs env s'.heap ((x, .int (i : Int) t) :: bs) → TabOk s' → Kp (Xl env s) s s' → (∀ s'', Vs env s''.heap bs → TabOk s'' → Kp (Xl env s') s' s'' → Q' .next s'') → wpAny (model prog w) A (execs body env) Q' E' s')
    (h : ∀ s', Vs env s'.heap bs → TabOk s' → Kp (Xl env s) s s' → Q .next s')
    (hs : ∀ x, foldedSetIterable iter env x = pure x := by intro _; rfl) :
    wpAny (model prog w) A (exec (.For (.Name x px) iter body [] pos) env) Q E s := by
  refine wpAny_For (hiter _ fun I s₂ hI hI0 k => ?_) hs
  refine codeAny_forLoop (fun m s' => ∃ i : Nat, i + m = n ∧ IsRangeIter s'.heap I (i : Int) ((n : Int) - i) 1 ∧ Vs env s'.heap bs ∧ TabOk s' ∧ Kp (Xl env s) s s') ?turn n ⟨0, by omega, by simpa using hI, V.kp k fun _ q => q.elim, T.nil k, xl_nil k⟩
  rintro m s' ⟨i, him, hI', V', T', K'⟩
  obtain ⟨ps, e50, _⟩ := id T'
  have IO : ¬ Own env I := own_fields V' hI' rfl
  have I50 : I ≠ 50 := fun q => by
    have z : s'.heap.get? I = _ := hI'
    rw [q, e50] at z; cases z
  have nfI : ∀ a, a = I → ∀ o, s'.heap.get? a = some o → NotFn o := fun a q o e => by
    rw [q, hI'] at e; cases e
    exact ⟨(fun fd z => by cases z), fun vs z c d r => by cases z; cases r⟩
  by_cases hi : n ≤ i
  · refine wpAny_pyNext_range_end hh hI' (by omega) fun h' hx' => ?_
    dsimp only
    have k1 : Kp (· = I) s' { s' with heap := h', toks := s'.toks } := Kp.ext hx' rfl
    exact wpAny_execs_nil (h _ (V'.kp k1 fun a q o => IO (q ▸ o)) (T'.kp k1 (fun q => I50 q.symm) nfI) (K'.trans (k1.mono fun a q => .inr (.inr (by rw [q]; exact hI0)))))
  · refine wpAny_pyNext_range_item hI' (by omega) fun h' hI'' hs' => ?_
    dsimp only
    have k1 : Kp (· = I) s' { s' with heap := h', toks := s'.toks + 1 } := Kp.same hs' rfl
    generalize hS : ({ s' with heap := h', toks := s'.toks + 1 } : Shared) = s₁ at k1 ⊢
    have hI1 : IsRangeIter s₁.heap I ((i + 1 : Nat) : Int) ((n : Int) - ((i + 1 : Nat) : Int)) 1 := by
      rw [show ((i + 1 : Nat) : Int) = (i : Int) + 1 by omega, show (n : Int) - ((i : Int) + 1) = (n : Int) - i - 1 by omega, ← hS]
      exact hI''
    have V1 : Vs env s₁.heap bs := V'.kp k1 fun a q o => IO (q ▸ o)
    have T1 : TabOk s₁ := T'.kp k1 (fun q => I50 q.symm) nfI
    have K1 : Kp (Xl env s) s s₁ := K'.trans (k1.mono fun a q => .inr (.inr (by rw [q]; exact hI0)))
    refine wpAny_assign_Name (hput s₁ _ _ _ V1 fun s₂ V2 k2 => ?_)
    have T2 : TabOk s₂ := T1.own V1 k2
    have K2 := K1.trans (k2.mono fun a q => .inl q)
    have hI2 : IsRangeIter s₂.heap I _ _ 1 := rng_xl V1 T1 (xl_own k2) hI1
    refine hbody i _ s₂ _ _ (by omega) V2 T2 K2 fun s₃ V3 T3 k3 => ?_
    exact ⟨m - 1, by omega, i + 1, by omega, rng_xl V2 T2 k3 hI2, V3, T3, xl_trans V2 T2 K2 k3⟩

/-- len(columns[j]) -/
theorem len_col {L : Addr} {cd : Value} {bs : List (Str × Value)} {Cl : Addr} {cv : List Value} {cc : List (List Int)} {col : List Int} {j : Nat} {tj : Tok} {p1 p2 p3 p4 p5 : Pos} {Q : Value → Shared → Prop} (G : Gnd H) (on : On H s) (V : Vs (lE L cd) s.heap bs) (hbc : bs.lookup ("columns" : Str) = some (.ref Cl)) (hbj : bs.lookup ("j" : Str) = some (.int (j : Int) tj)) (hC : Tbl s Cl cv cc) (hj : cc[j]? = some col) (h64 : col.length < 64) (hcl : cc.length < 64)
    (h : ∀ s' t, s'.heap = s.heap → s'.gens = s.gens → s'.os = s.os → Q (.int col.length t) s') : wpAny (model prog w) A (eval (.Call (.Name "len" p1) [.Subscript (.Name "columns" p2) (.Name "j" p3) p4] [] p5) (lE L cd)) Q E s := by
  obtain ⟨v, hv, r, us, rfl, hrl, hri⟩ := hC.rows.get' hj
  have hjl := (List.getElem?_eq_some_iff.mp hj).1
  have hul := hri.length
  refine call_one G on (x := "len") (by decide) boot_len (wpAny_Subscript_Name slot_list_getitem.lookup (V.name hbc (V.name hbj ⟨hC.ls.typeIs, pl_get (x := .ref r) hC.ls (by omega) (by omega) (by simpa using hv) (len_list hrl.isList (by simp; omega) ?_)⟩)))
  have := h { s with toks := s.toks + 1 + 1 } (s.toks + 1) rfl rfl rfl
  simpa [hul] using this

/-- columns[e][i] -/
theorem col_item {L : Addr} {cd : Value} {bs : List (Str × Value)} {Cl : Addr} {cv : List Value} {cc : List (List Int)} {col : List Int} {k i : Nat} {v : Int} {ti : Tok} {e : PySem.Expr} {p1 p2 p3 p4 : Pos} {Q : Value → Shared → Prop} (V : Vs (lE L cd) s.heap bs) (hbc : bs.lookup ("columns" : Str) = some (.ref Cl)) (hbi : bs.lookup ("i" : Str) = some (.int (i : Int) ti)) (hC : Tbl s Cl cv cc) (hk : cc[k]? = some col) (hv : col[i]? = some v) (h64 : col.length < 64) (hcl : cc.length < 64)
    (he : ∀ (Q' : Value → Shared → Prop), (∀ s' t, s'.heap = s.heap → s'.gens = s.gens → s'.os = s.os → Q' (.int (k : Int) t) s') → wpAny (model prog w) A (eval e (lE L cd)) Q' E s)
    (hs1 : ∀ a t, subscripted e false (.ref a) (.int (k : Int) t) = operate [.ref a, .int (k : Int) t] (getItem (.ref a) (.int (k : Int) t)))
    (h : ∀ s' t, s'.heap = s.heap → s'.gens = s.gens → s'.os = s.os → Q (.int v t) s') : wpAny (model prog w) A (eval (.Subscript (.Subscript (.Name "columns" p1) e p2) (.Name "i" p3) p4) (lE L cd)) Q E s := by
  obtain ⟨u, hu, r, us, rfl, hrl, hri⟩ := hC.rows.get' hk
  have hkl := (List.getElem?_eq_some_iff.mp hk).1
  have hil := (List.getElem?_eq_some_iff.mp hv).1
  have hul := hri.length
  have hui : us[i]? = some us[i] := List.getElem?_eq_getElem (by omega)
  obtain ⟨x, t, hx⟩ := hri.all _ (List.mem_of_getElem? hui)
  have hxv : x = v := by
    have := hri.nums
    rw [← this, List.getElem?_map, hui, hx] at hv
    simpa [numOf] using hv
  subst hxv
  refine Subscript_ (Subscript_ (V.name hbc (he _ fun s₁ t1 e1 e2 e3 => ?_)))
  have V1 : Vs (lE L cd) s₁.heap bs := vs_heap V e1
  have hC1 : Tbl s₁ Cl cv cc := hC.heap e1
  have hrl1 : PL s₁.heap r us := by rw [e1]; exact hrl
  refine tail_any hC1.ls.typeIs slot_list_getitem.lookup (pl_get (x := .ref r) hC1.ls (by omega) (by omega) (by simpa using hu) (V1.name hbi (tail_any hrl1.typeIs slot_list_getitem.lookup (pl_get (x := us[i]) hrl1 (by omega) (by omega) (by simpa using hui) ?_) rfl))) (hs1 Cl t1)
  rw [hx]
  exact h s₁ t e1 e2 e3
end
end Mine
end

section
open PySem PySem.W PySem.Calls PyProof.Rows
namespace Mine

section
variable {prog : Program} {w : World} {A : Around} {E : Value → Shared → Prop} {s : Shared} {H : Heap}

def forB : Stmt → List Stmt
  | .For _ _ b _ _ => b
  | _ => []

/-- the inner loop's body -/
theorem law_inner {L : Addr} {cd : Value} {Cl Tb : Addr} {cv tv : List Value} {cc tr : List (List Int)} {col : List Int} {dn wd i j : Nat} {v : Int} {td ti tj : Tok} {Q : Flow → Shared → Prop} (G : GndL H) (hO : ∀ a, Own (lE L cd) a → H.get? a = none) (on : On H s)
    (V : Vs (lE L cd) s.heap [("i", .int (i : Int) ti), ("j", .int (j : Int) tj), ("columns", .ref Cl), ("down", .int (dn : Int) td), ("table", .ref Tb)]) (T : TabOk s) (hC : Tbl s Cl cv cc) (hT : Tbl s Tb tv tr) (TT : Told tr cc dn) (hj : cc[j]? = some col) (hv : col[i]? = some v)
    (hcl : cc.length < 64) (ht : tr.length < 62) (hw : ∀ row ∈ tr, row.length = wd) (hw8 : wd < 8) (hh : A.handled = none)
    (h : ∀ s', Vs (lE L cd) s'.heap [("j", .int (j : Int) tj), ("columns", .ref Cl), ("down", .int (dn : Int) td), ("table", .ref Tb)] → TabOk s' → Kp (Xl (lE L cd) s) s s' → Q .next s') :
    wpAny (model prog w) A (execs (forB ((forB ((sBody (fdef 8)).getD 10 (.Pass default))).getD 1 (.Pass default))) (lE L cd)) Q E s := by
  have hcol : ∀ (k : Nat) (col : List Int), cc[k]? = some col → col.length < 64 := fun k col hk => by rw [TT.len k col hk]; omega
  -- told
  refine wpAny_execs_cons (wpAny_Assign_Name (col_item V rfl rfl hC hj hv (hcol _ _ hj) hcl (fun Q' hQ => V.name rfl (hQ s tj rfl rfl rfl)) (fun a t => rfl) fun s₁ t1 e1 e2 e3 => ?_))
  have V1 := vs_heap V e1
  have k01 : Kp (Xl (lE L cd) s) s s₁ := kp_heap e1 e2 e3
  have T1 : TabOk s₁ := T.nil (kp_heap e1 e2 e3)
  refine V1.put k01 (fun a q => .inl q) (fun s₂ V2 K2 k2 => ?_) (hc := fun _ => rfl)
  dsimp only
  have T2 : TabOk s₂ := T1.own V1 k2
  have hC2 := hC.xl V T K2
  have hT2 := hT.xl V T K2
  -- if j > 0 and columns[j - 1][i] < told
  refine wpAny_execs_cons (wpAny_If (isTrue_and (wpAny_isTrue_Compare1 (V2.name rfl (wpAny_Constant_int (gt_int (wpAny_truthy_bool ?_)))))))
  have rest : ∀ {s₃ : Shared} {bs : List (Str × Value)}, Vs (lE L cd) s₃.heap bs → Has bs [("told", .int v t1), ("i", .int (i : Int) ti), ("j", .int (j : Int) tj), ("columns", .ref Cl), ("down", .int (dn : Int) td), ("table", .ref Tb)] → TabOk s₃ → Kp (Xl (lE L cd) s) s s₃ →
      wpAny (model prog w) A (execs ((forB ((forB ((sBody (fdef 8)).getD 10 (.Pass default))).getD 1 (.Pass default))).drop 2) (lE L cd)) Q E s₃ := by
    intro s₃ bs V3 hb T3 K3
    have V3 := V3.weak hb
    have on3 := On.xl G hO on K3
    have hT3 := hT.xl V T K3
    refine wpAny_execs_cons (filt (p := gt) G hO on3 V3 T3 hT3 (by omega) hw hw8 hh rfl rfl rfl (fun x tx s' E' Q' hq => gt_int hq) rfl rfl rfl fun Da s₄ wa lsa hla V4 T4 K4 => ?_)
    dsimp only
    have K04 := xl_trans V3 T3 K3 K4
    have on4 := On.xl G hO on K04
    have hT4 := hT.xl V T K04
    refine wpAny_execs_cons (filt (p := ge) G hO on4 V4 T4 hT4 (by omega) hw hw8 hh rfl rfl rfl (fun x tx s' E' Q' hq => ge_int hq) rfl rfl rfl fun Dl s₅ wl lsl hll V5 T5 K5 => ?_)
    dsimp only
    have K05 := xl_trans V4 T4 K04 K5
    have on5 := On.xl G hO on K05
    have lsa5 : PL s₅.heap Da wa := PL.xl V4 T4 K5 lsa
    have ha : wa.length ≤ i := by rw [hla]; exact TT.above j i col v hj hv
    have hlv : i < wl.length := by rw [hll]; exact TT.level j i col v hj hv
    have hi64 : i < 64 := Nat.lt_trans (List.getElem?_eq_some_iff.mp hv).1 (hcol _ _ hj)
    have hwl64 : wl.length < 64 := by
      rw [hll]
      exact Nat.lt_of_le_of_lt (List.countP_le_length) (by omega)
    refine wpAny_execs_cons (wpAny_If (isTrue_or (wpAny_isTrue_Compare1 (len_name G.g on5 V5 rfl lsa5.isList (by omega) fun s₆ t6 e61 e62 e63 => ?_))))
    have V6 : Vs (lE L cd) s₆.heap _ := vs_heap V5 e61
    refine V6.name rfl (gt_int (wpAny_truthy_bool ?_))
    rw [if_neg (by simp; omega)]
    have lsl6 : PL s₆.heap Dl wl := by rw [e61]; exact lsl
    refine isTrue_or (wpAny_isTrue_Compare1 (len_name G.g (on_heap on5 e61) V6 rfl lsl6.isList (by omega) fun s₇ t7 e71 e72 e73 => ?_))
    have V7 : Vs (lE L cd) s₇.heap _ := vs_heap V6 e71
    refine V7.name rfl (le_int (wpAny_truthy_bool ?_))
    rw [if_neg (by simp; omega)]
    refine isTrue_or_nil ?_
    rw [if_neg (by simp)]
    refine wpAny_execs_nil (wpAny_execs_nil ?_)
    have k57 : Kp Nil s₅ s₇ := (kp_heap e61 e62 e63).trans (kp_heap e71 e72 e73)
    exact h s₇ (V7.weak ⟨rfl, rfl, rfl, rfl, trivial⟩) (T5.nil k57) (K05.trans (k57.mono fun _ q => q.elim))
  by_cases h0 : 0 < j
  · rw [if_pos (by simpa using h0)]
    obtain ⟨j', rfl⟩ : ∃ j', j = j' + 1 := ⟨j - 1, by omega⟩
    have hj'l : j' < cc.length := by have := (List.getElem?_eq_some_iff.mp hj).1; omega
    have hj' : cc[j']? = some cc[j'] := List.getElem?_eq_getElem hj'l
    have hil : i < (cc[j']).length := by
      have h1 := (List.getElem?_eq_some_iff.mp hv).1
      rw [TT.len _ _ hj'] ; rw [TT.len _ _ hj] at h1; exact h1
    have hv' : (cc[j'])[i]? = some (cc[j'])[i] := List.getElem?_eq_getElem hil
    have V2' : Vs (lE L cd) ({ s₂ with toks := s₂.toks + 1 } : Shared).heap _ := V2
    have hC2' : Tbl { s₂ with toks := s₂.toks + 1 } Cl cv cc := ⟨hC2.ls, hC2.rows⟩
    refine isTrue_and (wpAny_isTrue_Compare1 (col_item (k := j') V2' rfl rfl hC2' hj' hv' (hcol _ _ hj') hcl (fun Q' hQ => wpAny_BinOp (V2'.name rfl (wpAny_Constant_int (sub_int ?_)))) (fun a t => rfl) fun s₃ t3 e31 e32 e33 => ?_))
    · rw [show ((j' + 1 : Nat) : Int) - 1 = (j' : Int) by omega]
      exact hQ _ _ rfl rfl rfl
    · have V3 : Vs (lE L cd) s₃.heap _ := vs_heap V2' e31
      refine V3.name rfl (lt_int (wpAny_truthy_bool ?_))
      have hle := TT.fall j' i _ _ _ _ hj hj' hv hv'
      rw [if_neg (by simp; omega)]
      rw [if_neg (by simp)]
      refine wpAny_execs_nil ?_
      dsimp only
      have k23 : Kp Nil s₂ s₃ := (kp_heap (X := Nil) e31 e32 e33).un
      exact rest V3 ⟨rfl, rfl, rfl, rfl, rfl, rfl, trivial⟩ (T2.nil k23) (K2.trans (k23.mono fun _ q => q.elim))
  · rw [if_neg (by simpa using h0)]
    rw [if_neg (by simp)]
    refine wpAny_execs_nil ?_
    dsimp only
    have V2' : Vs (lE L cd) ({ s₂ with toks := s₂.toks + 1 } : Shared).heap _ := V2
    exact rest V2' ⟨rfl, rfl, rfl, rfl, rfl, rfl, trivial⟩ (T2.nil (Kp.toks _)) (K2.trans (Kp.toks _))
end
end Mine
end

section
open PySem PySem.W PySem.Calls PyProof.Rows
namespace Mine

section
variable {prog : Program} {w : World} {A : Around} {E : Value → Shared → Prop} {s : Shared} {H : Heap}

/-- the loops, and return True -/
theorem law10 {L : Addr} {cd : Value} {Cl Tb : Addr} {cv tv : List Value} {cc tr : List (List Int)} {dn wd : Nat} {td : Tok} {Q : Flow → Shared → Prop} (G : GndL H) (hO : ∀ a, Own (lE L cd) a → H.get? a = none) (on : On H s)
    (V : Vs (lE L cd) s.heap [("columns", .ref Cl), ("down", .int (dn : Int) td), ("table", .ref Tb)]) (T : TabOk s) (hC : Tbl s Cl cv cc) (hT : Tbl s Tb tv tr) (TT : Told tr cc dn)
    (hcl : cc.length < 64) (ht : tr.length < 62) (hw : ∀ row ∈ tr, row.length = wd) (hw8 : wd < 8) (hh : A.handled = none)
    (h : ∀ s', TabOk s' → Kp (Xl (lE L cd) s) s s' → Q (.ret (.bool true)) s') :
    wpAny (model prog w) A (execs ((sBody (fdef 8)).drop 10) (lE L cd)) Q E s := by
  have hvl := hC.length
  have htl := hT.length
  refine wpAny_execs_cons (for_range (n := cc.length) ?iter V T hh rfl (fun s' v E' Q' V' h' => V'.putC rfl rfl fun s'' V'' k => h' s'' V'' (k.mono fun a q => .inr ⟨"j", q ▸ rfl⟩)) ?body fun s' V' T' K' => ?_)
  case iter =>
    intro Q' hQ
    refine call_type G.g on (x := "range") (by decide) boot_range (spliced_cons ?_)
    refine len_name G.g on V rfl hC.ls.isList (by omega) fun s₁ t1 e1 e2 e3 => spliced_nil (call_range1 fun r s₂ t2 u2 hr hr2 k2 => ?_)
    have k02 : Kp Nil s s₂ := (kp_heap (X := Nil) e1 e2 e3).trans k2
    rw [hvl] at hr2
    exact iter_range1 hr2 (by omega) fun I s₃ hI hI3 k3 => hQ I s₃ hI3 (k02.none (fun q => q) hI) (k02.trans k3)
  case body =>
    intro j tj s' E' Q' hj V' T' K' hQ
    have on' := On.xl G hO on K'
    have hC' := hC.xl V T K'
    have hT' := hT.xl V T K'
    have hcj : cc[j]? = some cc[j] := List.getElem?_eq_getElem hj
    have hlen := TT.len j _ hcj
    generalize cc[j] = col at hcj hlen
    have hcol : col.length < 64 := by omega
    refine wpAny_execs_cons (wpAny_If (wpAny_isTrue_Compare1 (len_col G.g on' V' rfl rfl hC' hcj hcol hcl fun s₁ t1 e1 e2 e3 => ?_)))
    have V1 := vs_heap V' e1
    have on1 := on_heap on' e1
    refine call_min2 G.g on1 hh (spliced_cons (V1.name rfl (spliced_cons (len_name G.g on1 V1 rfl (hT'.heap e1).ls.isList (by omega) fun s₂ t2 e21 e22 e23 => spliced_nil ⟨dn, tv.length, td, t2, rfl, fun s₃ t3 k3 => ne_int (wpAny_truthy_bool ?_)⟩))))
    have e : ((col.length : Int) != min (dn : Int) (tv.length : Int)) = false := by
      rw [hlen, htl]
      simp only [bne_eq_false_iff_eq]
      omega
    rw [e, if_neg (by simp)]
    refine wpAny_execs_nil ?_
    dsimp only
    have k03 : Kp Nil s' s₃ := ((kp_heap e1 e2 e3).trans (kp_heap e21 e22 e23)).trans k3
    have V3 : Vs (lE L cd) s₃.heap _ := V'.kp k03 fun _ q => q.elim
    have T3 : TabOk s₃ := T'.nil k03
    have on3 : On H s₃ := on'.kp k03 fun _ q => q.elim
    have hC3 := hC'.kp k03
    have hT3 := hT'.kp k03
    refine wpAny_execs_cons (for_range (n := col.length) ?iter2 V3 T3 hh rfl (fun s' v E' Q' V' h' => V'.putL rfl fun s'' V'' k => h' s'' V'' (k.mono fun a q => .inl q)) ?body2 fun s₄ V4 T4 K4 => ?_)
    case iter2 =>
      intro Q2 hQ2
      refine call_type G.g on3 (x := "range") (by decide) boot_range (spliced_cons ?_)
      refine len_col G.g on3 V3 rfl rfl hC3 hcj hcol hcl fun s₄ t4 e41 e42 e43 => spliced_nil (call_range1 fun r s₅ t5 u5 hr hr5 k5 => ?_)
      have k35 : Kp Nil s₃ s₅ := (kp_heap (X := Nil) e41 e42 e43).trans k5
      exact iter_range1 hr5 (by omega) fun I s₆ hI hI6 k6 => hQ2 I s₆ hI6 (k35.none (fun q => q) hI) (k35.trans k6)
    case body2 =>
      intro i ti s₄ E4 Q4 hi V4 T4 K4 hQ4
      have on4 := On.xl G hO on3 K4
      exact law_inner G hO on4 V4 T4 (hC3.xl V3 T3 K4) (hT3.xl V3 T3 K4) TT hcj (List.getElem?_eq_getElem hi) hcl ht hw hw8 hh fun s₅ V5 T5 K5 => hQ4 s₅ V5 T5 K5
    · dsimp only
      refine wpAny_execs_nil (hQ s₄ (V4.weak ⟨rfl, rfl, rfl, trivial⟩) T4 ?_)
      exact xl_trans V3 T3 (xl_nil k03) K4
  · dsimp only
    exact wpAny_execs_cons (wpAny_Return_some (wpAny_Constant_bool (h s' T' K')))

/-- law's body -/
theorem law_body {L : Addr} {cd : Value} {l : Addr} {vs : List Value} {xs : List Int} {Q : Flow → Shared → Prop} (G : GndL H) (hO : ∀ a, Own (lE L cd) a → H.get? a = none) (on : On H s) (V : Vs (lE L cd) s.heap [("script", .ref l)]) (T : TabOk s) (hl : s.heap.IsList l vs.toArray) (hi : IntsAre vs xs) (h64 : vs.length < 64)
    (hh : A.handled = none) (hfr : A.frames = some [lE L cd]) (hroom : A.depth + 60 < recursionLimit) (hu : A.units + 600 < cLine)
    (h : ∀ s', TabOk s' → Kp (Xl (lE L cd) s) s s' → Q (.ret (.bool true)) s') :
    wpAny (model prog w) A (execs (sBody (fdef 8)) (lE L cd)) Q E s := by
  refine law0 G hO on V T hl hi h64 hh fun s₁ D ws rs ls1 hi1 hn1 V1 T1 K1 => ?_
  refine law1 V1 T1 ls1 hi1 (by rw [hi1.length]; omega) hh fun s₂ N ns nr ls2 hi2 hn2 V2 T2 k2 => ?_
  have K2 := xl_trans V1 T1 K1 k2
  have hil1 := hi1.length
  refine law23 (xs := xs) G hO (On.xl G hO on K2) V2 T2 (IsList.xl V T K2 hl) h64 ls2 hi2 (by omega) hh fun s₃ N' us ur tw ls3 hi3 hn3 hm3 hd3 V3 T3 k3 => ?_
  have K3 := xl_trans V2 T2 K2 k3
  generalize hwd : 2 + vs.length % 4 = wd at hm3 hd3 V3
  have hwd2 : 2 ≤ wd := by omega
  have hwd6 : wd < 6 := by omega
  obtain ⟨t, ht⟩ : ∃ t, ur.length = t * wd := ⟨ur.length / wd, by have := Nat.div_add_mod ur.length wd; rw [hd3] at this; rw [Nat.mul_comm]; omega⟩
  have ht2 : 2 ≤ t := by
    rcases Nat.lt_or_ge t 2 with q | q
    · exfalso
      have : t * wd ≤ 1 * wd := Nat.mul_le_mul_right wd (by omega)
      omega
    · exact q
  have ht40 : t ≤ ur.length := by rw [ht]; exact Nat.le_mul_of_pos_right t (by omega)
  refine law4 G hO (On.xl G hO on K3) V3 T3 ls3 hi3 ht (by omega) (by omega) (by omega) (by omega) hh fun s₄ Tb tv tr tb4 hn4 hw4 V4 T4 k4 => ?_
  have K4 := xl_trans V3 T3 K3 k4
  refine law56 G hO (On.xl G hO on K4) V4 T4 (IsList.xl V T K4 hl) hi h64 tb4 (by omega) hh fun s₅ ac dn ta td ha1 ha2 hd1 hd2 V5 T5 k5 => ?_
  have K5 := xl_trans V4 T4 K4 k5
  have tb5 := tb4.xl V4 T4 k5
  refine law7 G hO (On.xl G hO on K5) V5 T5 tb5 (by omega) hw4 hwd2 (by omega) ha1 ha2 hh hfr hroom hu fun s₆ Rw rv rr rw6 top6 V6 T6 k6 => ?_
  have K6 := xl_trans V5 T5 K5 k6
  have tb6 := tb5.xl V5 T5 k6
  have hrl := top6.length
  have hrw : ∀ row ∈ rr, row.length = min ac wd := fun row hr => by
    obtain ⟨i, hi', rfl⟩ := List.getElem_of_mem hr
    obtain ⟨a, ha, r⟩ := top6.get' (List.getElem?_eq_getElem hi')
    rw [r.len, hw4 a (List.mem_of_getElem? ha)]
  refine law8 G hO (On.xl G hO on K6) V6 T6 rw6 (by omega) hrw (by omega) hh hu fun s₇ V7 T7 k7 => ?_
  have K7 := xl_trans V6 T6 K6 k7
  have tb7 := tb6.xl V6 T6 k7
  have rw7 := rw6.xl V6 T6 k7
  refine law9 G hO (On.xl G hO on K7) V7 T7 rw7 (by omega) (by omega) hrw (by omega) hd1 (by omega) hh hfr hroom hu fun s₈ Cl cv cc cc8 hcl8 hcc8 V8 T8 k8 => ?_
  have K8 := xl_trans V7 T7 K7 k8
  have tb8 := tb7.xl V7 T7 k8
  exact law10 G hO (On.xl G hO on K8) V8 T8 cc8 tb8 (told top6 hrw hcl8 hcc8) (by omega) (by omega) hw4 (by omega) hh fun s₉ T9 k9 => h s₉ T9 (xl_trans V8 T8 K8 k9)
end
end Mine
end

section
open PySem PySem.W PySem.Calls PyProof.Rows
namespace Mine

section
variable {prog : Program} {w : World} {A : Around} {s : Shared} {H : Heap}

/-- a call of a def with cells, as code -/
theorem code_cells {a : Addr} {st : Stmt} {d : Value} {args : List Value} {kw : List (Str × Value)} {binds : List (Str × Value)} {R : Result → Shared → Prop} (F : FnAtD s.heap a st d) (hl : s.heap.NoLimit) (hroom : A.depth < recursionLimit)
    (hb : ∀ pm c, BindsTo s { docDef (sName st) (sArgs st) (sBody st) (sScope st) pm c .none with defaults := d } ⟨args, kw⟩ binds)
    (hkind : (binds.all fun y => (sScope st).names.lookup y.1 == some .local || (sScope st).names.lookup y.1 == some .cell) = true)
    (hfree : (sScope st).names.all (fun p => p.2 != .free) = true)
    (hco : (sScope st).isCoroutine = false) (hgen : (sScope st).isGenerator = false) (hk : (sScope st).kind = .function)
    (h : ∀ L cd s₁, Vs (envOfC (sName st) (sScope st) L a cd) s₁.heap binds.reverse → Kp Nil s s₁ → (∀ b, Own (envOfC (sName st) (sScope st) L a cd) b → s.heap.get? b = none) →
      wpAny (model prog w) (A.deeper (envOfC (sName st) (sScope st) L a cd)) (execs (sBody st) (envOfC (sName st) (sScope st) L a cd))
        (fun f s' => R (.ok (.ret (match f with | .ret v => v | _ => .none))) s') (fun _ _ => False) s₁) :
    codeAny (model prog w) A (.call (.ref a) ⟨args, kw⟩) R s := by
  obtain ⟨o, pm, c, ho, hd, hc⟩ := F
  refine codeAny_call_function hroom ho hd hco hgen rfl hc (hb pm (.ref c) _ _ _ _ ?_)
  refine wpAny_newFunctionEnv_cells hk (kindsX hkind _) fun env henv s' X => ?_
  have henv' : env = envOfC (sName st) (sScope st) s.heap.objs.size a (.ref c) := henv
  subst henv'
  have hkp := X.toInCall.keep
  obtain ⟨h₁, tk, hs'⟩ := X.toInCall.same
  have K : Kp Nil s s' := ⟨fun b o' _ e => hkp b o' e, by rw [hs'], by rw [hs']⟩
  refine ⟨let ⟨mc, p, q⟩ := hl; ⟨mc, Ns.kp K (fun q => q) p, q⟩, codeAny_func (wpAny_mono (h _ (.ref c) s' ⟨⟨_, X.toInCall.ns, fun x v e hkx => ?_⟩, fun x v e hkx => ?_, fun x cc e => ⟨_, X.cell x cc e⟩, fun x y cc e1 e2 => name_of_addr X.apart (mem_of_lookup e1) (mem_of_lookup e2)⟩ K fun b q => ?_) (fun _ _ q => q) fun _ _ q => q.elim)⟩
  · rw [bindL_eq _ _ _ _ hkx, e]; rfl
  · have hcell : (envOfC (sName st) (sScope st) s.heap.objs.size a (.ref c)).kindOf x = some .cell := hkx.resolve_right fun q => by
      have := kind_of_all (fun k => k != .free) hfree q
      simp at this
    obtain ⟨cc, hcc⟩ := Option.isSome_iff_exists.mp (cellsFrom_some (x := x) (sScope st).names (s.heap.objs.size + 1) [] (.inl hcell))
    refine ⟨cc, hcc, ?_⟩
    have := X.cell x cc hcc
    rw [bindC_eq _ _ _ _ hcell, e] at this
    exact this
  · rcases q with q | ⟨x, q⟩
    · rw [q]; exact get_fresh X.toInCall.fresh
    · exact get_fresh (Nat.le_trans X.toInCall.fresh (Nat.le_of_lt (X.above x b (mem_of_lookup q))))

/-- a call of law, as code -/
theorem law_call {l : Addr} {vs : List Value} {xs : List Int} {R : Result → Shared → Prop} (G : GndL H) (on : On H s) (F : FnAtD s.heap 60 (fdef 8) .none) (T : TabOk s) (hl : s.heap.IsList l vs.toArray) (hi : IntsAre vs xs) (h64 : vs.length < 64)
    (hh : A.handled = none) (hfr : A.frames = some []) (hroom : A.depth + 70 < recursionLimit) (hu : A.units + 700 < cLine) (h : ∀ s', TabOk s' → Kp (· = 50) s s' → R (.ok (.ret (.bool true))) s') :
    codeAny (model prog w) A (.call (.ref 60) ⟨[.ref l], []⟩) R s := by
  refine code_cells (st := fdef 8) (binds := [("script", .ref l)]) F (NoLimit.on on G.g.nolim) (by omega) (fun _ _ => BindsTo.of_eq rfl) rfl rfl rfl rfl rfl fun L cd s' V K hO => ?_
  have V : Vs (lE L cd) s'.heap [("script", .ref l)] := V
  have hO : ∀ b, Own (lE L cd) b → s.heap.get? b = none := hO
  refine law_body G (fun a q => on.none (hO a q)) (on.kp K fun _ q => q.elim) V (T.nil K) (IsList.kp K (fun q => q) hl) hi h64 hh (Around.frames_deeper hfr) (by show A.depth + 1 + 60 < _; omega) (by show A.units + 3 + 600 < _; omega) fun s'' T'' k => ?_
  refine h s'' T'' ((K.mono (Y := fun a => Xl (lE L cd) s' a) fun _ q => q.elim).trans k |>.fresh fun a q => ?_)
  rcases q with q | q | q
  · exact .inr (hO a q)
  · exact .inl q
  · exact .inr (K.none (fun q => q) q)
end

theorem fn_all {mg : Str → Option Value} (h1 : mg "heapreplace" = some (.ref 21)) (h2 : mg "heapify" = some (.ref 28)) (h3 : mg "_siftdown" = some (.ref 35)) (h4 : mg "_siftup" = some (.ref 42)) (h5 : mg "nlargest" = some (.ref 48)) (h6 : mg "_law_few" = some (.ref 55)) :
    ∀ x a, fnNames.lookup x = some a → mg x = some (.ref a) := fun x a e => by
  have m := mem_of_lookup e
  simp only [fnNames, List.mem_cons, Prod.mk.injEq, List.not_mem_nil, or_false] at m
  rcases m with ⟨rfl, rfl⟩ | ⟨rfl, rfl⟩ | ⟨rfl, rfl⟩ | ⟨rfl, rfl⟩ | ⟨rfl, rfl⟩ | ⟨rfl, rfl⟩ <;> assumption
theorem bi_all {mg mb : Str → Option Value} (h : ∀ x ∈ biNames, mg x = none) (hb : ∀ x : Str, x ≠ "__name__" → mb x = bootBuiltins x) : ∀ x ∈ biNames, mg x = none ∧ mb x = bootBuiltins x := fun x hx =>
  ⟨h x hx, hb x fun q => by
    have : ∀ y ∈ biNames, y ≠ ("__name__" : Str) := by decide
    exact this x hx q⟩
theorem post_ok (as : List WData) : PySem.Challenge.rw_dp0043_01.row.claim.post as (.bool true) as = true := by
  simp only [RowW.claim, OpenLaw.row, PySem.Challenge.rw_dp0043_01]
  rw [Bool.and_eq_true]
  refine ⟨by decide +kernel, ?_⟩
  have e : PySem.W.same (.bool true) (.bool true) = true := by decide +kernel
  simp only [WTm.holds, WTm.value, e]
/-- the fragment stands in the ground -/
theorem ghost_in {K : Frag} {h : Heap} (KX : K.In h) {a : Addr} {o : Obj} (e : K.lookup a = some o) (h50 : a ≠ 50) : (ghostOf h [(54, 50)]).get? a = some o := ghost_ne (KX a o e) (by simpa using h50)
end Mine
end

open PySem PySem.W PyProof.Rows
set_option maxRecDepth 100000 in
set_option maxHeartbeats 8000000 in
theorem PySem.Challenge.cw_dp0043_01_holds : PySem.Challenge.rw_dp0043_01.Holds := by
  w_on; o_law; k_head; (case hw => w_witness2)
  k_fill
  intro w s₀ s₁ mg mb G Y fa o pm cd doc dV kV ho hd hcd hD hmg hg args vals as hpre hlay hrd hwl hlo
  have KX := km_in_of Y
  km_tabs Y
  have X := (Ground.X G).1
  have V := (Ground.X G).2
  refine Ground.open G ?_
  intro T B D TE TW
  have hT9 : TabsAt ([(54, 50)] : List (Addr × Addr)) s₁.heap := List.forall_mem_cons.mpr ⟨⟨codeHd_of_K (c := 54) (P := 50) KX (by kernel_rfl), hT8 50 (by k_mem)⟩, fun _ h => nomatch h⟩
  have hfa : fa = 60 := by
    have e : mg (Str.ofString "law") = some (.ref 60) := mg_of KX T.g (by kernel_rfl)
    have e2 : mg (Str.ofString "law") = some (.ref fa) := hmg
    rw [e] at e2
    cases e2
    rfl
  subst hfa
  clear hd hmg ho
  wrow_args hpre hlay hrd hwl hlo
  refine enter_call ?_
  refine kn_post hT9 (fun _ _ => rfl) ?_
  rename IntsAre _ _ => hI
  rename PySem.Heap.IsList _ _ _ => hL
  have T' := ghost_top hT9 T
  have KG := ghost_K hT9 KX (by kernel_rfl)
  have h50 : (ghostOf s₁.heap [(54, 50)]).get? 50 = none := hideAll_none _ (.head _)
  have GL : Mine.GndL (ghostOf s₁.heap [(54, 50)]) := by
    have hbi : ∀ x ∈ Mine.biNames, mg x = none := by
      intro x hx
      simp only [Mine.biNames, List.mem_cons, List.not_mem_nil, or_false] at hx
      rcases hx with rfl | rfl | rfl | rfl | rfl | rfl | rfl | rfl | rfl | rfl | rfl | rfl <;> exact mg_none_of KG T'.g (by kernel_rfl)
    refine ⟨⟨⟨mg, mb, T'.g, T'.b, Mine.fn_all (mg_of KG T'.g (by kernel_rfl)) (mg_of KG T'.g (by kernel_rfl)) (mg_of KG T'.g (by kernel_rfl)) (mg_of KG T'.g (by kernel_rfl)) (mg_of KG T'.g (by kernel_rfl)) (mg_of KG T'.g (by kernel_rfl)), Mine.bi_all hbi T'.builtins⟩, T'.nolimit, ?_, ?_, ?_, ?_, ?_, ?_, ?_⟩, ?_, codeHd_of_K (c := 54) (P := 50) KG (by kernel_rfl), ?_, h50⟩
    · exact ⟨_, _, _, KG 35 _ rfl, rfl, _, _, _, _, rfl, KG _ _ rfl, rfl, rfl⟩
    · exact ⟨_, _, _, KG 42 _ rfl, rfl, _, _, _, _, rfl, KG _ _ rfl, rfl, rfl⟩
    · exact ⟨_, _, _, KG 21 _ rfl, rfl, _, _, _, _, rfl, KG _ _ rfl, rfl, rfl⟩
    · exact ⟨_, _, _, KG 28 _ rfl, rfl, _, _, _, _, rfl, KG _ _ rfl, rfl, rfl⟩
    · exact ⟨_, _, _, KG 55 _ rfl, rfl, _, _, _, _, rfl, KG _ _ rfl, rfl, rfl⟩
    · exact ⟨_, _, _, KG 48 _ rfl, rfl, _, _, _, _, rfl, KG _ _ rfl, rfl, rfl⟩
    · exact ⟨_, _, KG 43 _ rfl, rfl⟩
    · exact ⟨_, _, KG 55 _ rfl, rfl, _, _, _, _, rfl, KG 54 _ rfl, rfl, rfl⟩
    · obtain ⟨bm, ob, b1, b2, b3, b4, b5, b6⟩ := T'.bmain
      refine ⟨mg, T'.g, bm, ob, b1, b2, fun q => ?_, fun q => ?_, b3, b4, b5, b6⟩
      · obtain ⟨o', es, ep, e, hd, _⟩ := T'.g
        rw [q, e] at b3; cases b3; rw [hd] at b6; cases b6
      · rw [q, h50] at b3; cases b3
  have on : Mine.On (ghostOf s₁.heap [(54, 50)]) s₁ := fun a o e => of_hideAll _ e
  refine Mine.law_call (xs := _) GL on ⟨_, _, _, KX 60 _ rfl, rfl, _, _, _, _, rfl, KX _ _ rfl, rfl, rfl⟩ ⟨#[], hT8 50 (by k_mem), trivial, fun _ _ q => by cases q⟩ hL hI ?_ rfl rfl (by decide +kernel) (by decide +kernel) fun s' T2 k => ⟨⟨.inl ⟨.bool true, .bool true, [], rfl, fun _ => rfl, .bool true, Mine.post_ok _, fun _ => ⟨List.nodup_nil, fun _ h => nomatch h⟩⟩, fun b o e => ?_, k.os, k.gens.trans hg⟩, ?_, trivial⟩
  · have := hI.length
    omega
  · exact k.keep _ _ (fun q => by rw [q, h50] at e; cases e) (on b o e)
  · obtain ⟨ps, e, _⟩ := T2
    exact ⟨ps, e⟩
