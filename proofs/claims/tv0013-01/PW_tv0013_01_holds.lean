import PyProof.Rows.All
import Wide.All
import OpenK.AllK
import Wide.FinOn
import Lean
import PySem.Challenge.RW_tv0013_01
open PySem PySem.W PyProof.Rows PySem.Calls
set_option Elab.async false
set_option maxRecDepth 100000
namespace Mine
set_option maxHeartbeats 8000000 in
open_top hd for PySem.Challenge.rw_tv0013_01

/-! part L0 -/
/-! shapes of expressions: the side conditions of the kit's rules, once -/
noncomputable def plainE (e : Expr) : Bool := !(Nat.beq e.ctorIdx 22)
noncomputable def plainEs : List Expr → Bool
  | [] => true
  | e :: r => plainE e && plainEs r
theorem star_plain {env : Env} {e : Expr} {es : List Expr} (h : plainE e = true) : starEach (e :: es) env = (false, eval e env) :: starEach es env := by
  cases e <;> first | rfl | exact (Bool.false_ne_true h).elim
theorem any_plain {env : Env} {pos : Pos} : ∀ {es : List Expr}, plainEs es = true → (backTo pos (starEach es env)).any (·.1) = false
  | [], _ => rfl
  | e :: r, h => by
    simp only [plainEs, Bool.and_eq_true] at h
    rw [star_plain h.1]
    show (false || (backTo pos (starEach r env)).any (·.1)) = false
    rw [any_plain h.2]; rfl
theorem all_plain {env : Env} {pos : Pos} : ∀ {es : List Expr}, plainEs es = true → (backTo pos (starEach es env)).all (!·.1) = true
  | [], _ => rfl
  | e :: r, h => by
    simp only [plainEs, Bool.and_eq_true] at h
    rw [star_plain h.1]
    show (true && (backTo pos (starEach r env)).all (!·.1)) = true
    rw [all_plain h.2]; rfl
noncomputable def okTest (e : Expr) : Bool := !(Nat.beq e.ctorIdx 3 || Nat.beq e.ctorIdx 0 || Nat.beq e.ctorIdx 5 || Nat.beq e.ctorIdx 15)
theorem isTrue_ok {env : Env} {e : Expr} {w : Sem Value} (h : okTest e = true) : PySem.isTrue e env w = (do let v ← w; standAt e.pos; holding [v] (truthy v)) := by
  cases e <;> first | rfl | exact (Bool.false_ne_true h).elim
noncomputable def noSlice (e : Expr) : Bool := !(Nat.beq e.ctorIdx 26)
theorem sub_plain {e : Expr} {o i : Value} (h : noSlice e = true) : subscripted e false o i = operate [o, i] (getItem o i) := by
  cases e <;> first | rfl | exact (Bool.false_ne_true h).elim
theorem aug_plain {e : Expr} (h : noSlice e = true) (ov iv new : Value) : augStore e ov iv new = (do holding [new, ov, iv] (PySem.setItem ov iv new); release [new, ov, iv] []; pure Flow.next) := by
  cases e <;> first | rfl | exact (Bool.false_ne_true h).elim
noncomputable def noSet (e : Expr) : Bool := !(Nat.beq e.ctorIdx 7)
theorem set_plain {e : Expr} {env : Env} (h : noSet e = true) (x : Value) : foldedSetIterable e env x = pure x := by
  cases e <;> first | rfl | exact (Bool.false_ne_true h).elim
theorem marks_plain {e : Expr} {op : CmpOp} (h : noSet e = true) : behindInMarks op e = false := by
  cases e <;> first | rfl | exact (Bool.false_ne_true h).elim
noncomputable def noComp (e : Expr) : Bool := !(Nat.beq e.ctorIdx 8 || Nat.beq e.ctorIdx 9 || Nat.beq e.ctorIdx 10)
theorem swap_plain {e : Expr} {t : Option Expr} {l : Nat} {env : Env} (h : noComp e = true) : swapsWith e t l env = pure false := by
  cases e <;> first | rfl | exact (Bool.false_ne_true h).elim
theorem sole_plain {e t : Expr} {l : Nat} {env : Env} (h : noComp e = true) : swapsWithSole [t] e l env = pure false := by
  simp only [swapsWithSole]
  exact swap_plain h
noncomputable def noTup (e : Expr) : Bool := !(Nat.beq e.ctorIdx 25)
theorem stores_plain {e : Expr} {ts : List Expr} {n : Nat} {p : Pos} {env : Env} (h : noTup e = true) : swappedStores [.Tuple ts n p] e env = pure none := by
  cases e <;> first | rfl | exact (Bool.false_ne_true h).elim
theorem asgn_plain {env : Env} {e : Expr} {es : List Expr} (h : plainE e = true) : assignEach (e :: es) env = (false, PySem.assign e env) :: assignEach es env := by
  cases e <;> first | rfl | exact (Bool.false_ne_true h).elim
theorem asgn_len {env : Env} : ∀ {es : List Expr}, plainEs es = true → (assignEach es env).length = es.length
  | [], _ => rfl
  | e :: r, h => by
    simp only [plainEs, Bool.and_eq_true] at h
    rw [asgn_plain h.1, List.length_cons, asgn_len h.2]; rfl
theorem asgn_star {env : Env} : ∀ {es : List Expr}, plainEs es = true → (assignEach es env).findIdx? (·.1) = none
  | [], _ => rfl
  | e :: r, h => by
    simp only [plainEs, Bool.and_eq_true] at h
    rw [asgn_plain h.1, List.findIdx?_cons, asgn_star h.2]; rfl
noncomputable def noCall (e : Expr) : Bool := !(Nat.beq e.ctorIdx 16)
noncomputable def MethEq (env : Env) (o : Expr) (name : Str) (apos pos : Pos) (args : List Expr) : Prop :=
  ∃ pl, eval (.Call (.Attribute o name apos) args [] pos) env = (do
    let ov ← eval o env
    standAt apos.atName
    let (f, first) ← holding [ov] (getMethod ov name pl)
    callWith pos f first (backTo pos (starEach args env)) [])
theorem meth_plain {env : Env} {o : Expr} {name : Str} {apos pos : Pos} {args : List Expr} (ho : noCall o = true) (hp : plainEs args = true) (hl : (decide (args.length < 29)) = true) (he : (apos.endLine == pos.line) = true) : MethEq env o name apos pos args := by
  refine ⟨do return (← importBound o env).getD true, ?_⟩
  have e1 : eval (.Call (.Attribute o name apos) args [] pos) env = (do
      let ov ← attributeBase o name env (eval o env)
      standAt apos.atName
      methodCall o name apos pos env ov (args.length + 0) (backTo pos (starEach args env)) []) := rfl
  have e2 : attributeBase o name env (eval o env) = eval o env := by
    cases o <;> first | rfl | exact (Bool.false_ne_true ho).elim
  have e3 : methodCallForm (args.length + 0) (backTo pos (starEach args env)) [] = true := by
    unfold methodCallForm
    rw [all_plain hp]
    have : args.length < 29 := of_decide_eq_true hl
    simp
    omega
  rw [e1, e2]
  unfold methodCall
  rw [e3]
  unfold methodCallPos calleeOf
  rw [he]
  simp

/-! part L1 -/
/-! plain data, and how a heap bears it outside of the set `O` of addresses that may still change -/
inductive D where
  | none
  | bool (b : Bool)
  | int (i : Int)
  | flt (x : UInt64)
  | str (x : Str)
  | tup (l : List D)
  | lst (l : List D)
  | obj (a : Addr)

mutual
inductive Rep (O : Addr → Prop) (h : Heap) : Value → D → Prop where
  | none : Rep O h .none .none
  | bool (b : Bool) : Rep O h (.bool b) (.bool b)
  | int (i : Int) (t : Tok) : Rep O h (.int i t) (.int i)
  | flt (x : UInt64) (t : Tok) : Rep O h (.float x t) (.flt x)
  | str (x : Str) (t : Tok) : Rep O h (.str x t) (.str x)
  | tup (a : Addr) (vs : List Value) (ds : List D) : ¬ O a → IsTup h a vs.toArray → RepL O h vs ds → Rep O h (.ref a) (.tup ds)
  | lst (a : Addr) (vs : List Value) (ds : List D) : ¬ O a → h.IsList a vs.toArray → RepL O h vs ds → Rep O h (.ref a) (.lst ds)
  | obj (a : Addr) : Rep O h (.ref a) (.obj a)
inductive RepL (O : Addr → Prop) (h : Heap) : List Value → List D → Prop where
  | nil : RepL O h [] []
  | cons (v : Value) (d : D) (vs : List Value) (ds : List D) : Rep O h v d → RepL O h vs ds → RepL O h (v :: vs) (d :: ds)
end

theorem IsTup.at_ {h h' : Heap} {a : Addr} {its : Array Value} (x : IsTup h a its) (e : ∀ o, h.get? a = some o → h'.get? a = some o) : IsTup h' a its := by
  obtain ⟨o, ho, r⟩ := x
  exact ⟨o, e o ho, r⟩
theorem IsList.at_ {h h' : Heap} {a : Addr} {its : Array Value} (x : h.IsList a its) (e : ∀ o, h.get? a = some o → h'.get? a = some o) : h'.IsList a its := by
  obtain ⟨o, ho, r⟩ := x
  exact ⟨o, e o ho, r⟩

noncomputable def SeqObj (o : Obj) : Prop := o.cls = .type "tuple" ∨ o.cls = .type "list"
section
variable {O O' : Addr → Prop} {h h' : Heap}
noncomputable def RepI (O : Addr → Prop) (h : Heap) (v : Value) : D → Prop
  | .none => v = .none
  | .bool b => v = .bool b
  | .int i => ∃ t, v = .int i t
  | .flt x => ∃ t, v = .float x t
  | .str x => ∃ t, v = .str x t
  | .tup ds => ∃ a vs, v = .ref a ∧ ¬ O a ∧ IsTup h a vs.toArray ∧ RepL O h vs ds
  | .lst ds => ∃ a vs, v = .ref a ∧ ¬ O a ∧ h.IsList a vs.toArray ∧ RepL O h vs ds
  | .obj a => v = .ref a
theorem Rep.inv {v : Value} {d : D} (r : Rep O h v d) : RepI O h v d :=
  Rep.rec (motive_1 := fun v d _ => RepI O h v d) (motive_2 := fun _ _ _ => True) rfl (fun _ => rfl) (fun _ t => ⟨t, rfl⟩) (fun _ t => ⟨t, rfl⟩) (fun _ t => ⟨t, rfl⟩)
    (fun a vs _ x y z _ => ⟨a, vs, rfl, x, y, z⟩) (fun a vs _ x y z _ => ⟨a, vs, rfl, x, y, z⟩) (fun _ => rfl) trivial (fun _ _ _ _ _ _ _ _ => trivial) r
noncomputable def RepV (d : D) : Value → Prop
  | .int i _ => d = .int i
  | .str x _ => d = .str x
  | _ => True
theorem Rep.val {v : Value} {d : D} (r : Rep O h v d) : RepV d v :=
  Rep.rec (motive_1 := fun v d _ => RepV d v) (motive_2 := fun _ _ _ => True) trivial (fun _ => trivial) (fun _ _ => rfl) (fun _ _ => trivial) (fun _ _ => rfl)
    (fun _ _ _ _ _ _ _ => trivial) (fun _ _ _ _ _ _ _ => trivial) (fun _ => trivial) trivial (fun _ _ _ _ _ _ _ _ => trivial) r
theorem RepL.ind {P : List Value → List D → Prop} (hn : P [] []) (hc : ∀ v d vs ds, Rep O h v d → RepL O h vs ds → P vs ds → P (v :: vs) (d :: ds)) {vs : List Value} {ds : List D} (r : RepL O h vs ds) : P vs ds :=
  RepL.rec (motive_1 := fun _ _ _ => True) (motive_2 := fun vs ds _ => P vs ds) trivial (fun _ => trivial) (fun _ _ => trivial) (fun _ _ => trivial) (fun _ _ => trivial)
    (fun _ _ _ _ _ _ _ => trivial) (fun _ _ _ _ _ _ _ => trivial) (fun _ => trivial) hn (fun v d vs ds a b _ c => hc v d vs ds a b c) r
noncomputable def RepLI (O : Addr → Prop) (h : Heap) (vs : List Value) : List D → Prop
  | [] => vs = []
  | d :: ds => ∃ v ws, vs = v :: ws ∧ Rep O h v d ∧ RepL O h ws ds
theorem RepL.inv {vs : List Value} {ds : List D} (r : RepL O h vs ds) : RepLI O h vs ds :=
  RepL.ind (P := RepLI O h) rfl (fun v _ vs _ a b _ => ⟨v, vs, rfl, a, b⟩) r
theorem RepL.one {vs : List Value} {d : D} (r : RepL O h vs [d]) : ∃ v, vs = [v] ∧ Rep O h v d := by
  obtain ⟨v, ws, rfl, a, b⟩ := r.inv
  exact ⟨v, by rw [show ws = [] from b.inv], a⟩
theorem RepL.two {vs : List Value} {d e : D} (r : RepL O h vs [d, e]) : ∃ v w, vs = [v, w] ∧ Rep O h v d ∧ Rep O h w e := by
  obtain ⟨v, ws, rfl, a, b⟩ := r.inv
  obtain ⟨w, q, b⟩ := RepL.one b
  exact ⟨v, w, by rw [q], a, b⟩
theorem RepL.three {vs : List Value} {d e f : D} (r : RepL O h vs [d, e, f]) : ∃ v w u, vs = [v, w, u] ∧ Rep O h v d ∧ Rep O h w e ∧ Rep O h u f := by
  obtain ⟨v, ws, rfl, a, b⟩ := r.inv
  obtain ⟨w, u, q, b, c⟩ := RepL.two b
  exact ⟨v, w, u, by rw [q], a, b, c⟩
theorem Rep.moveS (k : ∀ a o, h.get? a = some o → ¬ O a → SeqObj o → ¬ O' a ∧ h'.get? a = some o) {v : Value} {d : D} (r : Rep O h v d) : Rep O' h' v d :=
  Rep.rec (motive_1 := fun v d _ => Rep O' h' v d) (motive_2 := fun vs ds _ => RepL O' h' vs ds) .none .bool .int .flt .str
    (fun a vs ds ha ht _ hl => .tup a vs ds (let ⟨o, ho, hc, _⟩ := ht; (k a o ho ha (.inl hc)).1) (let ⟨o, ho, hc, r⟩ := ht; ⟨o, (k a o ho ha (.inl hc)).2, hc, r⟩) hl)
    (fun a vs ds ha ht _ hl => .lst a vs ds (let ⟨o, ho, hc, _⟩ := ht; (k a o ho ha (.inr hc)).1) (let ⟨o, ho, hc, r⟩ := ht; ⟨o, (k a o ho ha (.inr hc)).2, hc, r⟩) hl)
    .obj .nil (fun v d vs ds _ _ a b => .cons v d vs ds a b) r
theorem RepL.moveS (k : ∀ a o, h.get? a = some o → ¬ O a → SeqObj o → ¬ O' a ∧ h'.get? a = some o) {vs : List Value} {ds : List D} (r : RepL O h vs ds) : RepL O' h' vs ds :=
  RepL.ind (P := RepL O' h') .nil (fun v d vs ds a _ b => .cons v d vs ds (a.moveS k) b) r
theorem Rep.move (k : ∀ a o, h.get? a = some o → ¬ O a → ¬ O' a ∧ h'.get? a = some o) {v : Value} {d : D} (r : Rep O h v d) : Rep O' h' v d := r.moveS fun a o e n _ => k a o e n
theorem RepL.move (k : ∀ a o, h.get? a = some o → ¬ O a → ¬ O' a ∧ h'.get? a = some o) {vs : List Value} {ds : List D} (r : RepL O h vs ds) : RepL O' h' vs ds := r.moveS fun a o e n _ => k a o e n
theorem Rep.grow (k : h.StaysIn h') {v : Value} {d : D} (x : Rep O h v d) : Rep O h' v d := x.move fun a o e n => ⟨n, k a o e⟩
theorem RepL.grow (k : h.StaysIn h') {v : List Value} {d : List D} (x : RepL O h v d) : RepL O h' v d := x.move fun a o e n => ⟨n, k a o e⟩
theorem RepL.length {vs : List Value} {ds : List D} (r : RepL O h vs ds) : vs.length = ds.length :=
  RepL.ind (P := fun vs ds => vs.length = ds.length) rfl (fun _ _ _ _ _ _ e => congrArg Nat.succ e) r
theorem RepL.get {vs : List Value} {ds : List D} (r : RepL O h vs ds) : ∀ {i : Nat} {d : D}, ds[i]? = some d → ∃ v, vs[i]? = some v ∧ Rep O h v d :=
  RepL.ind (P := fun vs ds => ∀ {i : Nat} {d : D}, ds[i]? = some d → ∃ v, vs[i]? = some v ∧ Rep O h v d) (fun e => nomatch e)
    (fun v _ _ _ a _ c i _ e => match i with
      | 0 => ⟨v, rfl, Option.some.inj e ▸ a⟩
      | _ + 1 => c e) r
theorem RepL.getV {vs : List Value} {ds : List D} (r : RepL O h vs ds) : ∀ {i : Nat} {v : Value}, vs[i]? = some v → ∃ d, ds[i]? = some d ∧ Rep O h v d :=
  RepL.ind (P := fun vs ds => ∀ {i : Nat} {v : Value}, vs[i]? = some v → ∃ d, ds[i]? = some d ∧ Rep O h v d) (fun e => nomatch e)
    (fun _ d _ _ a _ c i _ e => match i with
      | 0 => ⟨d, rfl, Option.some.inj e ▸ a⟩
      | _ + 1 => c e) r
theorem RepL.append {vs vs' : List Value} {ds ds' : List D} (r : RepL O h vs ds) (y : RepL O h vs' ds') : RepL O h (vs ++ vs') (ds ++ ds') :=
  RepL.ind (P := fun vs ds => RepL O h (vs ++ vs') (ds ++ ds')) y (fun v d vs ds a _ b => .cons v d _ _ a b) r
theorem RepL.set {vs : List Value} {ds : List D} (x : RepL O h vs ds) {i : Nat} {v : Value} {d : D} (r : Rep O h v d) : RepL O h (vs.set i v) (ds.set i d) :=
  RepL.ind (P := fun vs ds => ∀ i, RepL O h (vs.set i v) (ds.set i d)) (fun _ => .nil) (fun v d vs ds a b c i => match i with
    | 0 => .cons _ _ _ _ r b
    | i + 1 => .cons _ _ _ _ a (c i)) x i
theorem RepL.erase {vs : List Value} {ds : List D} (x : RepL O h vs ds) {i : Nat} : RepL O h (vs.eraseIdx i) (ds.eraseIdx i) :=
  RepL.ind (P := fun vs ds => ∀ i, RepL O h (vs.eraseIdx i) (ds.eraseIdx i)) (fun _ => .nil) (fun v d vs ds a b c i => match i with
    | 0 => b
    | i + 1 => .cons _ _ _ _ a (c i)) x i
theorem RepL.take {vs : List Value} {ds : List D} (x : RepL O h vs ds) (i : Nat) : RepL O h (vs.take i) (ds.take i) :=
  RepL.ind (P := fun vs ds => ∀ i, RepL O h (vs.take i) (ds.take i)) (fun i => by rw [List.take_nil, List.take_nil]; exact .nil) (fun v d vs ds a b c i => match i with
    | 0 => .nil
    | i + 1 => .cons _ _ _ _ a (c i)) x i
theorem RepL.drop {vs : List Value} {ds : List D} (x : RepL O h vs ds) (i : Nat) : RepL O h (vs.drop i) (ds.drop i) :=
  RepL.ind (P := fun vs ds => ∀ i, RepL O h (vs.drop i) (ds.drop i)) (fun i => by rw [List.drop_nil, List.drop_nil]; exact .nil) (fun v d vs ds a b c i => match i with
    | 0 => .cons v d vs ds a b
    | i + 1 => c i) x i
end

/-! the ground of a body: what does not change while it runs -/
structure G where
  prog : Program
  w : World
  A : Around
  base : Heap
  L : Addr
  O₀ : Addr → Prop

noncomputable abbrev G.M (Γ : G) : Model := model Γ.prog Γ.w

structure Site (Γ : G) (k : Nat) : Prop where
  handled : Γ.A.handled = none
  frames : ∃ env outer A₀ base₀, Γ.A.frames = some (env :: outer) ∧ env.frame = some Γ.L ∧ env.scope.kind = .function ∧ Below A₀ base₀ outer Γ.base
  X : (hd.heap_39 Γ.w.params).In Γ.base
  T : ∃ loose mean mg mb, Top hd.view_39 loose mean mg mb Γ.base
  depth : Γ.A.depth + 10 * k < recursionLimit
  units : Γ.A.units + 100 * k < cLine

noncomputable def FrOk (Γ : G) (h : Heap) : Prop := ∃ m, Fr Γ.base Γ.L h m
theorem FrOk.grow {Γ : G} {h h' : Heap} (x : FrOk Γ h) (k : h.StaysIn h') : FrOk Γ h' := let ⟨m, F⟩ := x; ⟨m, F.keeps k⟩
noncomputable def Alive (O : Addr → Prop) (h : Heap) : Prop := ∀ a, O a → ∃ o, h.get? a = some o
theorem Alive.grow {O : Addr → Prop} {h h' : Heap} (x : Alive O h) (k : h.StaysIn h') : Alive O h' := fun a ha => let ⟨o, e⟩ := x a ha; ⟨o, k a o e⟩
theorem Alive.fresh {O : Addr → Prop} {h : Heap} {a : Addr} (x : Alive O h) (e : h.get? a = none) : ¬ O a := fun ha => by
  obtain ⟨o, q⟩ := x a ha
  rw [e] at q; cases q

/-- a variable holds data for good, or a list of its own that the body may still change -/
inductive SV where
  | imm (d : D)
  | own (ds : List D)

noncomputable abbrev Store := Str → Option SV
noncomputable def upd (ρ : Store) (x : Str) (c : SV) : Store := fun y => if y = x then some c else ρ y
noncomputable def nil0 : Store := fun _ => none

noncomputable def RV (Γ : G) (env : Env) (h : Heap) (x : Str) (v : Value) : Prop :=
  (∀ h', h.StaysIn h' → ∀ (pos : Pos) (Q E : Value → Shared → Prop) (s : Shared), s.heap = h' → Q v s → wpAny Γ.M Γ.A (eval (.Name x pos) env) Q E s) ∧
  (∀ c, env.cells.lookup x = some c → h.IsCell c (some v))
theorem StaysIn.refl (h : Heap) : h.StaysIn h := fun _ _ e => e
theorem StaysIn.trans {h h' h'' : Heap} (a : h.StaysIn h') (b : h'.StaysIn h'') : h.StaysIn h'' := fun x o e => b x o (a x o e)
theorem RV.grow {Γ : G} {env : Env} {h h' : Heap} {x : Str} {v : Value} (r : RV Γ env h x v) (k : h.StaysIn h') : RV Γ env h' x v :=
  ⟨fun h'' k' => r.1 h'' (StaysIn.trans k k'), fun c e => by obtain ⟨o, ho, hd⟩ := r.2 c e; exact ⟨o, k c o ho, hd⟩⟩

noncomputable def VarOk (Γ : G) (env : Env) (O : Addr → Prop) (h : Heap) (x : Str) : SV → Prop
  | .imm d => ∃ v, RV Γ env h x v ∧ Rep O h v d
  | .own ds => ∃ a vs, RV Γ env h x (.ref a) ∧ h.IsList a vs.toArray ∧ RepL O h vs ds
theorem VarOk.grow {Γ : G} {env : Env} {O : Addr → Prop} {h h' : Heap} {x : Str} {c : SV} (r : VarOk Γ env O h x c) (k : h.StaysIn h') : VarOk Γ env O h' x c := by
  cases c with
  | imm d => obtain ⟨v, a, b⟩ := r; exact ⟨v, a.grow k, b.grow k⟩
  | own ds => obtain ⟨a, vs, p, q, r⟩ := r; exact ⟨a, vs, p.grow k, IsList.at_ q fun o e => k a o e, r.grow k⟩

structure Ok (Γ : G) (env : Env) (O : Addr → Prop) (ρ : Store) (h : Heap) : Prop where
  fr : FrOk Γ h
  alive : Alive O h
  var : ∀ x c, ρ x = some c → VarOk Γ env O h x c
theorem Ok.grow {Γ : G} {env : Env} {O : Addr → Prop} {ρ : Store} {h h' : Heap} (x : Ok Γ env O ρ h) (k : h.StaysIn h') : Ok Γ env O ρ h' :=
  ⟨x.fr.grow k, x.alive.grow k, fun y c e => (x.var y c e).grow k⟩

noncomputable abbrev No : Value → Shared → Prop := fun _ _ => False

/-- an expression comes to the datum `d`; nothing that stood is changed -/
structure Ev (Γ : G) (env : Env) (ρ : Store) (e : Expr) (d : D) : Prop where
  run : ∀ (O : Addr → Prop) (s : Shared), Ok Γ env O ρ s.heap → ∀ Q : Value → Shared → Prop,
    (∀ v h' tk', s.heap.StaysIn h' → Rep O h' v d → Q v { s with heap := h', toks := tk' }) → wpAny Γ.M Γ.A (eval e env) Q No s

/-- the same where what comes is a list that may still change -/
structure EvL (Γ : G) (env : Env) (ρ : Store) (e : Expr) (ds : List D) : Prop where
  run : ∀ (O : Addr → Prop) (s : Shared), Ok Γ env O ρ s.heap → ∀ Q : Value → Shared → Prop,
    (∀ a vs h' tk', s.heap.StaysIn h' → h'.IsList a vs.toArray → RepL O h' vs ds → Q (.ref a) { s with heap := h', toks := tk' }) → wpAny Γ.M Γ.A (eval e env) Q No s

/-- a test -/
structure EvT (Γ : G) (env : Env) (ρ : Store) (e : Expr) (b : Bool) : Prop where
  run : ∀ (O : Addr → Prop) (s : Shared), Ok Γ env O ρ s.heap → ∀ Q : Bool → Shared → Prop,
    (∀ h' tk', s.heap.StaysIn h' → Q b { s with heap := h', toks := tk' }) → wpAny Γ.M Γ.A (PySem.isTrue e env (eval e env)) Q No s

/-- arguments -/
structure EvS (Γ : G) (env : Env) (ρ : Store) (pos : Pos) (es : List Expr) (ds : List D) : Prop where
  run : ∀ (O : Addr → Prop) (s : Shared), Ok Γ env O ρ s.heap → ∀ Q : List Value → Shared → Prop,
    (∀ vs h' tk', s.heap.StaysIn h' → RepL O h' vs ds → Q vs { s with heap := h', toks := tk' }) → wpAny Γ.M Γ.A (spliced (backTo pos (starEach es env))) Q No s

section
variable {Γ : G} {env : Env} {ρ : Store}

theorem Ev.of_eq {e : Expr} {d d' : D} (h : Ev Γ env ρ e d) (q : d = d') : Ev Γ env ρ e d' := q ▸ h
theorem EvT.of_eq {e : Expr} {d d' : Bool} (h : EvT Γ env ρ e d) (q : d = d') : EvT Γ env ρ e d' := q ▸ h
theorem EvL.of_eq {e : Expr} {d d' : List D} (h : EvL Γ env ρ e d) (q : d = d') : EvL Γ env ρ e d' := q ▸ h

theorem Ev.name {x : Str} {pos : Pos} {d : D} (hx : ρ x = some (.imm d)) : Ev Γ env ρ (.Name x pos) d := by
  constructor; intro O s ok Q hQ
  obtain ⟨v, r, p⟩ := ok.var x _ hx
  exact r.1 _ (StaysIn.refl _) pos Q No s rfl (hQ v s.heap s.toks (StaysIn.refl _) p)
theorem EvL.own {x : Str} {pos : Pos} {ds : List D} (hx : ρ x = some (.own ds)) : EvL Γ env ρ (.Name x pos) ds := by
  constructor; intro O s ok Q hQ
  obtain ⟨a, vs, r, l, p⟩ := ok.var x _ hx
  exact r.1 _ (StaysIn.refl _) pos Q No s rfl (hQ a vs s.heap s.toks (StaysIn.refl _) l p)
theorem EvL.of {e : Expr} {ds : List D} (h : Ev Γ env ρ e (.lst ds)) : EvL Γ env ρ e ds := by
  constructor; intro O s ok Q hQ
  refine h.run O s ok _ fun v h' tk' k r => ?_
  obtain ⟨a, vs, rfl, _, hl, hr⟩ := r.inv
  exact hQ a vs h' tk' k hl hr
theorem Ev.int {i : Int} {k : Nat} {pos : Pos} : Ev Γ env ρ (.Constant (.int i) k pos) (.int i) :=
  ⟨fun _ s _ _ hQ => wpAny_Constant_int (hQ _ s.heap _ (StaysIn.refl _) (.int _ _))⟩
theorem Ev.flt {i : UInt64} {k : Nat} {pos : Pos} : Ev Γ env ρ (.Constant (.float i) k pos) (.flt i) :=
  ⟨fun _ s _ _ hQ => wpAny_Constant_float (hQ _ s.heap _ (StaysIn.refl _) (.flt _ _))⟩
theorem Ev.str {x : Str} {k : Nat} {pos : Pos} : Ev Γ env ρ (.Constant (.str x) k pos) (.str x) :=
  ⟨fun _ s _ _ hQ => Calls.Constant_str (hQ _ s.heap _ (StaysIn.refl _) (.str _ _))⟩
/-- a step on two values -/
structure Bin (Γ : G) (op : Operator) (d₁ d₂ d : D) : Prop where
  run : ∀ (O : Addr → Prop) (s : Shared) (v₁ v₂ : Value), FrOk Γ s.heap → Alive O s.heap → Rep O s.heap v₁ d₁ → Rep O s.heap v₂ d₂ → ∀ Q : Value → Shared → Prop,
    (∀ v h' tk', s.heap.StaysIn h' → Rep O h' v d → Q v { s with heap := h', toks := tk' }) → wpAny Γ.M Γ.A (binaryOp op v₁ v₂) Q No s
theorem Ev.bin {e₁ e₂ : Expr} {op : Operator} {pos : Pos} {d₁ d₂ d : D} (h₁ : Ev Γ env ρ e₁ d₁) (h₂ : Ev Γ env ρ e₂ d₂) (hb : Bin Γ op d₁ d₂ d) : Ev Γ env ρ (.BinOp e₁ op e₂ pos) d := by
  constructor; intro O s ok Q hQ
  refine wpAny_BinOp (h₁.run O s ok _ fun v h' tk' k r => ?_)
  have ok' := ok.grow k
  refine h₂.run O _ ok' _ fun v₂ h₂ tk₂ k₂ r₂ => ?_
  have ok₂ := ok'.grow k₂
  exact hb.run O _ v v₂ ok₂.fr ok₂.alive (r.grow k₂) r₂ _ fun v₃ h₃ tk₃ k₃ r₃ => hQ v₃ h₃ tk₃ (StaysIn.trans k (StaysIn.trans k₂ k₃)) r₃

theorem Bin.of_int {op : Operator} {a b : Int} {d : D} (H : ∀ (O : Addr → Prop) (s : Shared) (Q : Value → Shared → Prop), (∀ v tk', Rep O s.heap v d → Q v { s with toks := tk' }) → ∀ t u, wpAny Γ.M Γ.A (binaryOp op (.int a t) (.int b u)) Q No s) : Bin Γ op (.int a) (.int b) d := by
  constructor; intro O s v₁ v₂ _ _ r₁ r₂ Q hQ
  obtain ⟨_, rfl⟩ := r₁.inv; obtain ⟨_, rfl⟩ := r₂.inv
  exact H O s Q (fun v tk r => hQ v s.heap tk (StaysIn.refl _) r) _ _
theorem Bin.of_flt {op : Operator} {a b : UInt64} {d : D} (H : ∀ (O : Addr → Prop) (s : Shared) (Q : Value → Shared → Prop), (∀ v tk', Rep O s.heap v d → Q v { s with toks := tk' }) → ∀ t u, wpAny Γ.M Γ.A (binaryOp op (.float a t) (.float b u)) Q No s) : Bin Γ op (.flt a) (.flt b) d := by
  constructor; intro O s v₁ v₂ _ _ r₁ r₂ Q hQ
  obtain ⟨_, rfl⟩ := r₁.inv; obtain ⟨_, rfl⟩ := r₂.inv
  exact H O s Q (fun v tk r => hQ v s.heap tk (StaysIn.refl _) r) _ _
theorem Bin.add {a b : Int} : Bin Γ .Add (.int a) (.int b) (.int (a + b)) :=
  .of_int fun _ _ _ hQ _ _ => add_int (hQ _ _ (.int _ _))
theorem Bin.mod {a b : Int} (hb : b ≠ 0) : Bin Γ .Mod (.int a) (.int b) (.int (a.fmod b)) :=
  .of_int fun _ _ _ hQ _ _ => mod_int' hb (hQ _ _ (.int _ _))
theorem Bin.fdiv {a b : Int} (hb : b ≠ 0) (hp : Builtin.divisionGoesByPylong a b = false) : Bin Γ .FloorDiv (.int a) (.int b) (.int (a.fdiv b)) :=
  .of_int fun _ _ _ hQ _ _ => floordiv_int hb (hQ _ _ (.int _ _)) (.inl hp)
end

/-! part L2 -/
section
variable {Γ : G} {env : Env} {ρ : Store}

theorem Bin.sub {a b : Int} : Bin Γ .Sub (.int a) (.int b) (.int (a - b)) :=
  .of_int fun _ _ _ hQ _ _ => PyProof.Rows.sub_int (hQ _ _ (.int _ _))
theorem Bin.mul {a b : Int} (h : IntMulOk a b) : Bin Γ .Mult (.int a) (.int b) (.int (a * b)) :=
  .of_int fun _ _ _ hQ _ _ => PyProof.Rows.mul_int (hQ _ _ (.int _ _)) h
theorem Bin.pow {a n : Int} (hn : 0 ≤ n) (h : (Builtin.Int.intBits a : Int) * n ≤ 2 ^ 27) : Bin Γ .Pow (.int a) (.int n) (.int (a ^ n.toNat)) :=
  .of_int fun _ _ _ hQ _ _ => pow_int hn h (hQ _ _ (.int _ _))
theorem Bin.shr {a n : Int} (hn : 0 ≤ n) : Bin Γ .RShift (.int a) (.int n) (.int (a.fdiv (2 ^ n.toNat))) :=
  .of_int fun _ _ _ hQ _ _ => rshift_int hn (hQ _ _ (.int _ _))
theorem Bin.and {a b : Int} : Bin Γ .BitAnd (.int a) (.int b) (.int (Builtin.bitAnd a b)) :=
  .of_int fun _ _ _ hQ _ _ => and_int (hQ _ _ (.int _ _))
theorem Bin.addF {a b : UInt64} : Bin Γ .Add (.flt a) (.flt b) (.flt (Float64.add a b)) :=
  .of_flt fun _ _ _ hQ _ _ => add_float (hQ _ _ (.flt _ _))
theorem Bin.subF {a b : UInt64} : Bin Γ .Sub (.flt a) (.flt b) (.flt (Float64.sub a b)) :=
  .of_flt fun _ _ _ hQ _ _ => sub_float (hQ _ _ (.flt _ _))
theorem Bin.mulF {a b : UInt64} : Bin Γ .Mult (.flt a) (.flt b) (.flt (Float64.mul a b)) :=
  .of_flt fun _ _ _ hQ _ _ => mul_float (hQ _ _ (.flt _ _))
theorem Bin.subFI {a : UInt64} {n : Int} (h : n.natAbs < 2 ^ 1023) : Bin Γ .Sub (.flt a) (.int n) (.flt (Float64.sub a (Float64.ofInt n))) := by
  constructor; intro O s v₁ v₂ _ _ r₁ r₂ Q hQ
  obtain ⟨_, rfl⟩ := r₁.inv; obtain ⟨_, rfl⟩ := r₂.inv
  exact sub_fi_fits h (hQ _ s.heap _ (StaysIn.refl _) (.flt _ _))
theorem Bin.mulIF {a : UInt64} {n : Int} (h : n.natAbs < 2 ^ 1023) : Bin Γ .Mult (.int n) (.flt a) (.flt (Float64.mul (Float64.ofInt n) a)) := by
  constructor; intro O s v₁ v₂ _ _ r₁ r₂ Q hQ
  obtain ⟨_, rfl⟩ := r₁.inv; obtain ⟨_, rfl⟩ := r₂.inv
  exact mul_if_fits h (hQ _ s.heap _ (StaysIn.refl _) (.flt _ _))
theorem Bin.div {a b : Int} (hb : ¬ (b == 0) = true) (hi : ¬ Float64.isInf (Float64.ofFrac (decide (a < 0) != decide (b < 0)) a.natAbs b.natAbs) = true) :
    Bin Γ .Div (.int a) (.int b) (.flt (Float64.ofFrac (decide (a < 0) != decide (b < 0)) a.natAbs b.natAbs)) :=
  .of_int fun _ _ _ hQ _ _ => AutoIntOps.truediv_2 hb hi (hQ _ _ (.flt _ _))
theorem Bin.addS {x y : Str} (h : x.length + y.length ≤ sizeLine) : Bin Γ .Add (.str x) (.str y) (.str (x ++ y)) := by
  constructor; intro O s v₁ v₂ _ _ r₁ r₂ Q hQ
  obtain ⟨_, rfl⟩ := r₁.inv; obtain ⟨_, rfl⟩ := r₂.inv
  exact add_str (fun _ _ => hQ _ s.heap _ (StaysIn.refl _) (.str _ _)) h
theorem Bin.addL {xs ys : List D} (h : xs.length + ys.length ≤ sizeLine) : Bin Γ .Add (.lst xs) (.lst ys) (.lst (xs ++ ys)) := by
  constructor; intro O s v₁ v₂ fr al r₁ r₂ Q hQ
  obtain ⟨a, vs, rfl, ha, hl, hr⟩ := r₁.inv
  obtain ⟨b, ws, rfl, hb, hl2, hr2⟩ := r₂.inv
  have hz : vs.length + ws.length ≤ sizeLine := by rw [hr.length, hr2.length]; exact h
  obtain ⟨⟨cls, dd, data, sl⟩, ho, hc, n, hd⟩ := id hl
  obtain ⟨⟨cls2, dd2, data2, sl2⟩, ho2, hc2, n2, hd2⟩ := id hl2
  simp only at hc hd hc2 hd2
  subst hc hd hc2 hd2
  refine concat_meets ⟨_, ho, rfl⟩ ⟨_, ho2, rfl⟩ noFill_list_add seq_list_add PySem.F.slot_list_add PySem.F.entry_list_add (PySem.F.args_list_add_2 _ _) (list_addW a b vs.toArray ws.toArray n n2 dd dd2 sl sl2 (by simpa using hz)) ⟨ho, ho2, ?_⟩
  have up : s.heap.StaysIn (s.heap.push { cls := .type "list", data := .seq (vs ++ ws).toArray }) := fun b o e => Heap.get?_push_of_some _ e
  rw [show vs.toArray ++ ws.toArray = (vs ++ ws).toArray by simp]
  refine hQ _ _ s.toks up (.lst _ (vs ++ ws) _ (al.fresh ?_) ⟨_, Heap.get?_push_size _ rfl, rfl, 0, rfl⟩ ((hr.grow up).append (hr2.grow up)))
  exact Heap.get?_none_of_le (Nat.le_refl _)

/-! comparisons and tests -/
structure Cmp (Γ : G) (op : CmpOp) (d₁ d₂ : D) (b : Bool) : Prop where
  run : ∀ (O : Addr → Prop) (s : Shared) (v₁ v₂ : Value), FrOk Γ s.heap → Alive O s.heap → Rep O s.heap v₁ d₁ → Rep O s.heap v₂ d₂ → ∀ Q : Value → Shared → Prop,
    (∀ h' tk', s.heap.StaysIn h' → Q (.bool b) { s with heap := h', toks := tk' }) → wpAny Γ.M Γ.A (compareOp op v₁ v₂) Q No s
theorem Cmp.of_int {op : CmpOp} {a b : Int} {c : Bool} (H : ∀ (s : Shared) (Q : Value → Shared → Prop), Q (.bool c) s → ∀ t u, wpAny Γ.M Γ.A (compareOp op (.int a t) (.int b u)) Q No s) : Cmp Γ op (.int a) (.int b) c := by
  constructor; intro O s v₁ v₂ _ _ r₁ r₂ Q hQ
  obtain ⟨_, rfl⟩ := r₁.inv; obtain ⟨_, rfl⟩ := r₂.inv
  exact H s Q (hQ s.heap s.toks (StaysIn.refl _)) _ _
theorem Cmp.of_flt {op : CmpOp} {a b : UInt64} {c : Bool} (H : ∀ (s : Shared) (Q : Value → Shared → Prop), Q (.bool c) s → ∀ t u, wpAny Γ.M Γ.A (compareOp op (.float a t) (.float b u)) Q No s) : Cmp Γ op (.flt a) (.flt b) c := by
  constructor; intro O s v₁ v₂ _ _ r₁ r₂ Q hQ
  obtain ⟨_, rfl⟩ := r₁.inv; obtain ⟨_, rfl⟩ := r₂.inv
  exact H s Q (hQ s.heap s.toks (StaysIn.refl _)) _ _
theorem Cmp.lt {a b : Int} : Cmp Γ .Lt (.int a) (.int b) (decide (a < b)) :=
  .of_int fun _ _ hQ _ _ => PyProof.Rows.lt_int hQ
theorem Cmp.gt {a b : Int} : Cmp Γ .Gt (.int a) (.int b) (decide (b < a)) :=
  .of_int fun _ _ hQ _ _ => PyProof.Rows.gt_int hQ
theorem Cmp.le {a b : Int} : Cmp Γ .LtE (.int a) (.int b) (decide (a ≤ b)) :=
  .of_int fun _ _ hQ _ _ => le_int hQ
theorem Cmp.ge {a b : Int} : Cmp Γ .GtE (.int a) (.int b) (decide (b ≤ a)) :=
  .of_int fun _ _ hQ _ _ => ge_int hQ
theorem Cmp.eq {a b : Int} : Cmp Γ .Eq (.int a) (.int b) (a == b) :=
  .of_int fun _ _ hQ _ _ => PyProof.Rows.eq_int hQ
theorem Cmp.ne {a b : Int} : Cmp Γ .NotEq (.int a) (.int b) (a != b) :=
  .of_int fun _ _ hQ _ _ => PyProof.Rows.ne_int hQ
theorem Cmp.eqF {a b : UInt64} : Cmp Γ .Eq (.flt a) (.flt b) (Float64.cmp a b == some Ordering.eq) :=
  .of_flt fun _ _ hQ _ _ => AutoFloatOps.eq_0 hQ

theorem truthy_bool {M : Model} {A : Around} {E : Value → Shared → Prop} {s : Shared} {b : Bool} {Q : Bool → Shared → Prop} (h : Q b s) : wpAny M A (truthy (.bool b)) Q E s := by
  exact fun _ _ _ => h
structure Tru (Γ : G) (d : D) (b : Bool) : Prop where
  run : ∀ (O : Addr → Prop) (s : Shared) (v : Value), Rep O s.heap v d → ∀ Q : Bool → Shared → Prop,
    (∀ h' tk', s.heap.StaysIn h' → Q b { s with heap := h', toks := tk' }) → wpAny Γ.M Γ.A (truthy v) Q No s
theorem Tru.bool {b : Bool} : Tru Γ (.bool b) b := by
  constructor; intro O s v r Q hQ
  obtain rfl := r.inv
  exact truthy_bool (hQ s.heap s.toks (StaysIn.refl _))
theorem Tru.int {a : Int} : Tru Γ (.int a) (a != 0) := by
  constructor; intro O s v r Q hQ
  obtain ⟨_, rfl⟩ := r.inv
  exact truthy_int (hQ s.heap s.toks (StaysIn.refl _))

theorem Ev.cmp {e₁ e₂ : Expr} {op : CmpOp} {pos : Pos} {d₁ d₂ : D} {b : Bool} (h₁ : Ev Γ env ρ e₁ d₁) (h₂ : Ev Γ env ρ e₂ d₂) (hc : Cmp Γ op d₁ d₂ b) (hm : noSet e₂ = true) :
    Ev Γ env ρ (.Compare e₁ [op] [e₂] pos) (.bool b) := by
  constructor; intro O s ok Q hQ
  refine wpAny_Compare1 (h₁.run O s ok _ fun v h' tk' k r => ?_) (marks_plain hm)
  have ok' := ok.grow k
  refine h₂.run O _ ok' _ fun v₂ h₂ tk₂ k₂ r₂ => ?_
  have ok₂ := ok'.grow k₂
  exact hc.run O _ v v₂ ok₂.fr ok₂.alive (r.grow k₂) r₂ _ fun h₃ tk₃ k₃ => hQ _ h₃ tk₃ (StaysIn.trans k (StaysIn.trans k₂ k₃)) (.bool _)
theorem EvT.cmp {e₁ e₂ : Expr} {op : CmpOp} {pos : Pos} {d₁ d₂ : D} {b : Bool} (h₁ : Ev Γ env ρ e₁ d₁) (h₂ : Ev Γ env ρ e₂ d₂) (hc : Cmp Γ op d₁ d₂ b) (hm : noSet e₂ = true) :
    EvT Γ env ρ (.Compare e₁ [op] [e₂] pos) b := by
  constructor; intro O s ok Q hQ
  refine wpAny_isTrue_Compare1 (h₁.run O s ok _ fun v h' tk' k r => ?_) (marks_plain hm)
  have ok' := ok.grow k
  refine h₂.run O _ ok' _ fun v₂ h₂ tk₂ k₂ r₂ => ?_
  have ok₂ := ok'.grow k₂
  exact hc.run O _ v v₂ ok₂.fr ok₂.alive (r.grow k₂) r₂ _ fun h₃ tk₃ k₃ => truthy_bool (hQ h₃ tk₃ (StaysIn.trans k (StaysIn.trans k₂ k₃)))
theorem EvT.of {e : Expr} {d : D} {b : Bool} (h : Ev Γ env ρ e d) (ht : Tru Γ d b) (hp : okTest e = true) : EvT Γ env ρ e b := by
  constructor; intro O s ok Q hQ
  refine isTrue_plain (h.run O s ok _ fun v h' tk' k r => ?_) (isTrue_ok hp)
  exact ht.run O _ v r _ fun h₂ tk₂ k₂ => hQ h₂ tk₂ (StaysIn.trans k k₂)
theorem EvT.orNil {pos : Pos} : EvT Γ env ρ (.BoolOp .Or [] pos) false := by
  constructor; intro O s ok Q hQ
  exact isTrue_or_nil (hQ s.heap s.toks (StaysIn.refl _))
theorem EvT.or {e : Expr} {es : List Expr} {pos : Pos} {b c : Bool} (h₁ : EvT Γ env ρ e b) (h₂ : b = false → EvT Γ env ρ (.BoolOp .Or es pos) c) : EvT Γ env ρ (.BoolOp .Or (e :: es) pos) (b || c) := by
  constructor; intro O s ok Q hQ
  refine isTrue_or (h₁.run O s ok _ fun h' tk' k => ?_)
  cases b with
  | true => exact hQ h' tk' k
  | false => exact (h₂ rfl).run O _ (ok.grow k) _ fun h₂ tk₂ k₂ => hQ h₂ tk₂ (StaysIn.trans k k₂)
theorem Ev.ite {t a b : Expr} {pos : Pos} {c : Bool} {d : D} (ht : EvT Γ env ρ t c) (ha : c = true → Ev Γ env ρ a d) (hb : c = false → Ev Γ env ρ b d) : Ev Γ env ρ (.IfExp t a b pos) d := by
  constructor; intro O s ok Q hQ
  refine IfExp_ (ht.run O s ok _ fun h' tk' k => ?_)
  cases c with
  | true => rw [if_pos rfl]; exact (ha rfl).run O _ (ok.grow k) _ fun v h₂ tk₂ k₂ r => hQ v h₂ tk₂ (StaysIn.trans k k₂) r
  | false => rw [if_neg Bool.false_ne_true]; exact (hb rfl).run O _ (ok.grow k) _ fun v h₂ tk₂ k₂ r => hQ v h₂ tk₂ (StaysIn.trans k k₂) r

/-! arguments, displays -/
theorem EvS.nil {pos : Pos} : EvS Γ env ρ pos [] [] := by
  constructor; intro O s ok Q hQ
  exact spliced_none (hQ [] s.heap s.toks (StaysIn.refl _) .nil)
theorem EvS.cons {pos : Pos} {e : Expr} {es : List Expr} {d : D} {ds : List D} (h₁ : Ev Γ env ρ e d) (h₂ : EvS Γ env ρ pos es ds) (hs : plainE e = true) :
    EvS Γ env ρ pos (e :: es) (d :: ds) := by
  constructor; intro O s ok Q hQ
  refine spliced_more (h₁.run O s ok _ fun v h' tk' k r => ?_) (star_plain hs)
  exact h₂.run O _ (ok.grow k) _ fun vs h₂ tk₂ k₂ r₂ => hQ _ h₂ tk₂ (StaysIn.trans k k₂) (.cons _ _ _ _ (r.grow k₂) r₂)
theorem Ev.tup {es : List Expr} {k : Nat} {pos : Pos} {ds : List D} (h : EvS Γ env ρ pos es ds) (hz : ds.length ≤ sizeLine) : Ev Γ env ρ (.Tuple es k pos) (.tup ds) := by
  constructor; intro O s ok Q hQ
  refine Tuple_ (h.run O s ok _ fun vs h' tk' k r => ?_)
  have up : h'.StaysIn (h'.push { cls := .type "tuple", data := .seq vs.toArray }) := fun b o e => Heap.get?_push_of_some _ e
  refine wpAny_newObj_type (hQ _ _ _ (StaysIn.trans k up) (.tup _ vs _ ((ok.alive.grow k).fresh (Heap.get?_none_of_le (Nat.le_refl _))) ⟨_, Heap.get?_push_size _ rfl, rfl, 0, rfl⟩ (r.grow up))) ?_
  show vs.toArray.size ≤ sizeLine
  rw [List.size_toArray, r.length]; exact hz
theorem Ev.lst {es : List Expr} {pos : Pos} {ds : List D} (h : EvS Γ env ρ pos es ds) (hz : ds.length ≤ sizeLine) : Ev Γ env ρ (.List es pos) (.lst ds) := by
  constructor; intro O s ok Q hQ
  refine List_ (h.run O s ok _ fun vs h' tk' k r => ?_)
  have up : h'.StaysIn (h'.push { cls := .type "list", data := .seq vs.toArray }) := fun b o e => Heap.get?_push_of_some _ e
  refine wpAny_newObj_type (hQ _ _ _ (StaysIn.trans k up) (.lst _ vs _ ((ok.alive.grow k).fresh (Heap.get?_none_of_le (Nat.le_refl _))) ⟨_, Heap.get?_push_size _ rfl, rfl, 0, rfl⟩ (r.grow up))) ?_
  show vs.toArray.size ≤ sizeLine
  rw [List.size_toArray, r.length]; exact hz

/-! items -/
theorem Ev.item {eo ei : Expr} {pos : Pos} {ds : List D} {k : Int} {d : D} (ho : EvL Γ env ρ eo ds) (hi : Ev Γ env ρ ei (.int k)) (h0 : 0 ≤ k) (hk : k < 2 ^ 63) (hd : ds[k.toNat]? = some d)
    (hs : noSlice ei = true) : Ev Γ env ρ (.Subscript eo ei pos) d := by
  constructor; intro O s ok Q hQ
  refine Subscript_ (ho.run O s ok _ fun a vs h' tk' g l r => ?_)
  refine hi.run O _ (ok.grow g) _ fun v h₂ tk₂ g₂ r₂ => ?_
  obtain ⟨_, rfl⟩ := r₂.inv
  have l₂ := IsList.at_ l fun o e => g₂ a o e
  obtain ⟨x, e1, e2⟩ := (r.grow g₂).get hd
  exact tail_any l₂.typeIs slot_list_getitem.lookup (wpAny_getItem_list l₂ h0 hk (by simpa using e1) (hQ x h₂ tk₂ (StaysIn.trans g g₂) e2)) (sub_plain hs)
theorem Ev.itemT {eo ei : Expr} {pos : Pos} {ds : List D} {k : Int} {d : D} (ho : Ev Γ env ρ eo (.tup ds)) (hi : Ev Γ env ρ ei (.int k)) (h0 : 0 ≤ k) (hk : k < 2 ^ 63) (hd : ds[k.toNat]? = some d)
    (hs : noSlice ei = true) : Ev Γ env ρ (.Subscript eo ei pos) d := by
  constructor; intro O s ok Q hQ
  refine Subscript_ (ho.run O s ok _ fun v h' tk' g r => ?_)
  obtain ⟨a, vs, rfl, ha, l, r⟩ := r.inv
  refine hi.run O _ (ok.grow g) _ fun v h₂ tk₂ g₂ r₂ => ?_
  obtain ⟨_, rfl⟩ := r₂.inv
  have l₂ : IsTup h₂ a vs.toArray := IsTup.at_ l fun o e => g₂ a o e
  obtain ⟨x, e1, e2⟩ := (r.grow g₂).get hd
  have hlt : k.toNat < vs.length := by
    rcases Nat.lt_or_ge k.toNat vs.length with h | h
    · exact h
    · rw [List.getElem?_eq_none h] at e1; cases e1
  refine tail_any (s := { s with heap := h₂, toks := tk₂ }) l₂.typeIs slot_tuple_getitem.lookup (getItem_tuple (j := k.toNat) (x := x) l₂ (by omega) hk ?_ (by simpa using e1) (hQ x h₂ tk₂ (StaysIn.trans g g₂) e2)) (sub_plain hs)
  simp [seqIndex?]
  omega
end

/-! part L3 -/
/-! names of the top and built-in names -/
structure Glb (Γ : G) (env : Env) (x : Str) (v : Value) : Prop where
  run : ∀ (pos : Pos) (Q E : Value → Shared → Prop) (s : Shared), FrOk Γ s.heap → Q v s → wpAny Γ.M Γ.A (eval (.Name x pos) env) Q E s
structure EnvG (env : Env) : Prop where
  g : env.globals = mainGlobals
  b : env.builtins = builtinsNs
  k : env.scope.kind = .function
section
variable {Γ : G} {env : Env} {ρ : Store} {k : Nat}
theorem Glb.builtin (S : Site Γ k) (eg : EnvG env) {x : Str} {v : Value} (e : ∀ P, nsIn (hd.heap_39 P) mainGlobals x = some none) (hv : bootBuiltins x = some v) (hn : x ≠ "__name__")
    (hx : env.kindOf x = some .globalImplicit) (hd : (x == ("__debug__" : Str)) = false) : Glb Γ env x v := by
  constructor; rintro pos Q E s ⟨m, F⟩ h
  obtain ⟨loose, mean, mg, mb, T⟩ := S.T
  have T' := topRead_of T
  exact Name_function_global eg.k hx (loadGlobal_builtin (env := env) (by rw [eg.g]; exact T'.g.keeps F.keep) (mg_none_of S.X T'.g (e _)) (by rw [eg.b]; exact T'.b.keeps F.keep) ((T'.builtins x hn).trans hv) h) hd
theorem Glb.fn (S : Site Γ k) (eg : EnvG env) {x : Str} {v : Value} (e : ∀ P, nsIn (hd.heap_39 P) mainGlobals x = some (some v))
    (hx : env.kindOf x = some .globalImplicit) (hd : (x == ("__debug__" : Str)) = false) : Glb Γ env x v := by
  constructor; rintro pos Q E s ⟨m, F⟩ h
  obtain ⟨loose, mean, mg, mb, T⟩ := S.T
  have T' := topRead_of T
  exact Name_function_global eg.k hx (loadGlobal_global (env := env) (by rw [eg.g]; exact T'.g.keeps F.keep) (mg_of S.X T'.g (e _)) h) hd

/-- a call: of a built-in, a type, a def -/
structure CallR (Γ : G) (f : Value) (ds : List D) (d : D) : Prop where
  run : ∀ (O : Addr → Prop) (s : Shared) (vs : List Value), FrOk Γ s.heap → Alive O s.heap → RepL O s.heap vs ds → ∀ Q : Value → Shared → Prop,
    (∀ v h' tk', s.heap.StaysIn h' → Rep O h' v d → Q v { s with heap := h', toks := tk' }) → wpAny Γ.M Γ.A (call f vs) Q No s
theorem CallR.of_eq {f : Value} {ds : List D} {d d' : D} (h : CallR Γ f ds d) (q : d = d') : CallR Γ f ds d' := q ▸ h

theorem Ev.callB {x : Str} {p pos : Pos} {id : String} {e : Expr} {es : List Expr} {ds : List D} {d : D} (hg : Glb Γ env x (.builtin id)) (ha : EvS Γ env ρ pos (e :: es) ds) (hc : CallR Γ (.builtin id) ds d)
    (h1 : plainEs (e :: es) = true) : Ev Γ env ρ (.Call (.Name x p) (e :: es) [] pos) d := by
  constructor; intro O s ok Q hQ
  refine Call_ (hg.run p _ _ s ok.fr ?_) rfl
  refine PyProof.Rows.callWith_builtin1 (ha.run O s ok _ fun vs h' tk' g r => ?_) (star_plain (Bool.and_eq_true_iff.mp h1).1) (any_plain (Bool.and_eq_true_iff.mp h1).2)
  exact hc.run O _ vs (ok.fr.grow g) (ok.alive.grow g) r _ fun v h₂ tk₂ g₂ r₂ => hQ v h₂ tk₂ (StaysIn.trans g g₂) r₂
theorem Ev.callT {x : Str} {p pos : Pos} {id : String} {e : Expr} {es : List Expr} {ds : List D} {d : D} (hg : Glb Γ env x (.type id)) (ha : EvS Γ env ρ pos (e :: es) ds) (hc : CallR Γ (.type id) ds d)
    (h1 : plainEs (e :: es) = true) : Ev Γ env ρ (.Call (.Name x p) (e :: es) [] pos) d := by
  constructor; intro O s ok Q hQ
  refine Call_ (hg.run p _ _ s ok.fr ?_) rfl
  refine PyProof.Rows.callWith_type1 (ha.run O s ok _ fun vs h' tk' g r => ?_) (star_plain (Bool.and_eq_true_iff.mp h1).1) (any_plain (Bool.and_eq_true_iff.mp h1).2)
  exact hc.run O _ vs (ok.fr.grow g) (ok.alive.grow g) r _ fun v h₂ tk₂ g₂ r₂ => hQ v h₂ tk₂ (StaysIn.trans g g₂) r₂
theorem Ev.callF (S : Site Γ k) {x : Str} {p pos : Pos} {f : Addr} {e : Expr} {es : List Expr} {ds : List D} {d : D} (hg : Glb Γ env x (.ref f)) (hk : ∀ P, keepIn (hd.heap_39 P) (.ref f) = true) (ha : EvS Γ env ρ pos (e :: es) ds) (hc : CallR Γ (.ref f) ds d)
    (h1 : plainEs (e :: es) = true) : Ev Γ env ρ (.Call (.Name x p) (e :: es) [] pos) d := by
  constructor; intro O s ok Q hQ
  refine Call_ (hg.run p _ _ s ok.fr ?_) rfl
  refine callWith_K S.X (hk _) (ha.run O s ok _ fun vs h' tk' g r => ⟨?_, ?_⟩) (star_plain (Bool.and_eq_true_iff.mp h1).1) (any_plain (Bool.and_eq_true_iff.mp h1).2)
  · obtain ⟨m, F⟩ := ok.fr.grow g
    exact S.X.keeps F.keep
  · exact hc.run O _ vs (ok.fr.grow g) (ok.alive.grow g) r _ fun v h₂ tk₂ g₂ r₂ => hQ v h₂ tk₂ (StaysIn.trans g g₂) r₂
end

/-! the state of a def's body -/
noncomputable def valOf (env : Env) (m cm : Str → Option Value) (x : Str) : Option Value := match env.cells.lookup x with
  | some _ => cm x
  | none => m x

/-- the name may be stored -/
noncomputable def Wr (env : Env) (x : Str) : Prop :=
  ((env.kindOf x = some .local ∧ env.cells.lookup x = none) ∨ (env.kindOf x = some .cell ∧ ∃ c, env.cells.lookup x = some c)) ∧ (x == ("__debug__" : Str)) = false

/-- a list object, whole -/
noncomputable def LstAt (h : Heap) (a : Addr) (vs : List Value) : Prop := ∃ n, h.get? a = some (PySem.W.listOf vs.toArray n)
theorem LstAt.isList {h : Heap} {a : Addr} {vs : List Value} (x : LstAt h a vs) : h.IsList a vs.toArray := let ⟨n, e⟩ := x; ⟨_, e, rfl, n, rfl⟩
theorem LstAt.at_ {h h' : Heap} {a : Addr} {vs : List Value} (x : LstAt h a vs) (e : ∀ o, h.get? a = some o → h'.get? a = some o) : LstAt h' a vs := let ⟨n, q⟩ := x; ⟨n, e _ q⟩

noncomputable def VarM (Γ : G) (env : Env) (O : Addr → Prop) (h : Heap) (m cm : Str → Option Value) (x : Str) : SV → Prop
  | .imm d => ∃ v, valOf env m cm x = some v ∧ Rep O h v d
  | .own ds => ∃ a vs, valOf env m cm x = some (.ref a) ∧ LstAt h a vs ∧ RepL O h vs ds ∧ O a ∧ a ≠ Γ.L ∧ Γ.base.get? a = none ∧ (∀ y c, env.cells.lookup y = some c → a ≠ c)

structure FSm (Γ : G) (env : Env) (O : Addr → Prop) (σ : Store) (h : Heap) (m cm : Str → Option Value) : Prop where
  F : Fr Γ.base Γ.L h m
  OL : O Γ.L
  cell : ∀ y c, env.cells.lookup y = some c → O c ∧ c ≠ Γ.L ∧ Γ.base.get? c = none ∧ h.IsCell c (cm y)
  inj : ∀ y y' c, env.cells.lookup y = some c → env.cells.lookup y' = some c → y = y'
  wr : ∀ x c, σ x = some c → Wr env x
  var : ∀ x c, σ x = some c → VarM Γ env O h m cm x c
  apart : ∀ x x' ds ds' a, σ x = some (.own ds) → σ x' = some (.own ds') → valOf env m cm x = some (.ref a) → valOf env m cm x' = some (.ref a) → x = x'

structure FS (Γ : G) (env : Env) (O : Addr → Prop) (σ : Store) (h : Heap) : Prop where
  loc : env.locals = Γ.L
  fk : env.scope.kind = .function
  alive : Alive O h
  sub : ∀ a, Γ.O₀ a → O a
  ex : ∃ m cm, FSm Γ env O σ h m cm

section
variable {Γ : G} {env : Env} {O : Addr → Prop} {σ : Store} {h h' : Heap} {m cm : Str → Option Value}
theorem FS.ok (x : FS Γ env O σ h) : Ok Γ env O σ h := by
  obtain ⟨m, cm, y⟩ := x.ex
  refine ⟨⟨m, y.F⟩, x.alive, fun z c e => ?_⟩
  have hw := y.wr z c e
  have rv : ∀ v, valOf env m cm z = some v → RV Γ env h z v := by
    intro v hv
    refine ⟨fun h' g pos Q E s es hq => ?_, fun c hc => ?_⟩
    · rcases hw with ⟨⟨hk, hl⟩ | ⟨hk, c, hl⟩, hdb⟩
      · unfold valOf at hv; rw [hl] at hv
        exact wpAny_Name (wpAny_loadName_local (m := m) x.fk hk (by rw [x.loc, es]; exact (y.F.keeps g).ns) hv hq) hdb
      · unfold valOf at hv; rw [hl] at hv
        obtain ⟨_, _, _, o, ho, hcd⟩ := y.cell z c hl
        exact wpAny_Name (wpAny_loadName_cell x.fk hk hl ⟨o, by rw [es]; exact g c o ho, by rw [hcd]; exact congrArg _ hv⟩ hq) hdb
    · obtain ⟨_, _, _, o, ho, hcd⟩ := y.cell z c hc
      unfold valOf at hv; rw [hc] at hv
      exact ⟨o, ho, by rw [hcd]; exact congrArg _ hv⟩
  have vm := y.var z c e
  cases c with
  | imm d => obtain ⟨v, e1, e2⟩ := vm; exact ⟨v, rv v e1, e2⟩
  | own ds => obtain ⟨a, vs, e1, e2, e3, _⟩ := vm; exact ⟨a, vs, rv _ e1, e2.isList, e3⟩

theorem FSm.grow (x : FSm Γ env O σ h m cm) (g : h.StaysIn h') : FSm Γ env O σ h' m cm where
  F := x.F.keeps g
  OL := x.OL
  cell := fun y c e => let ⟨a, b, c', o, ho, hd⟩ := x.cell y c e; ⟨a, b, c', o, g _ _ ho, hd⟩
  inj := x.inj
  wr := x.wr
  var := fun y c e => by
    have := x.var y c e
    cases c with
    | imm d => obtain ⟨v, a, b⟩ := this; exact ⟨v, a, b.grow g⟩
    | own ds => obtain ⟨a, vs, p, q, r, z⟩ := this; exact ⟨a, vs, p, q.at_ fun o e => g a o e, r.grow g, z⟩
  apart := x.apart
theorem FS.grow (x : FS Γ env O σ h) (g : h.StaysIn h') : FS Γ env O σ h' :=
  ⟨x.loc, x.fk, x.alive.grow g, x.sub, let ⟨m, cm, y⟩ := x.ex; ⟨m, cm, y.grow g⟩⟩

/-- what a step keeps -/
noncomputable def Kp (O : Addr → Prop) (h : Heap) (O' : Addr → Prop) (h' : Heap) : Prop := ∀ a o, h.get? a = some o → ¬ O a → ¬ O' a ∧ h'.get? a = some o
theorem Kp.refl : Kp O h O h := fun _ _ e n => ⟨n, e⟩
theorem Kp.trans {O' O'' : Addr → Prop} {h'' : Heap} (a : Kp O h O' h') (b : Kp O' h' O'' h'') : Kp O h O'' h'' := fun x o e n => let ⟨n', e'⟩ := a x o e n; b x o e' n'
theorem Kp.grow (g : h.StaysIn h') : Kp O h O h' := fun x o e n => ⟨n, g x o e⟩
theorem Kp.but {a : Addr} (ha : O a) (hs : Heap.SameBut a h h') : Kp O h O h' := fun x o e n => ⟨n, (hs.2 x fun q => n (q ▸ ha)).trans e⟩
theorem Alive.kp {O' : Addr → Prop} (x : Alive O h) (e : ∀ a, O' a → O a) (k : ∀ a o, h.get? a = some o → ∃ o', h'.get? a = some o') : Alive O' h' := fun a ha => let ⟨o, q⟩ := x a (e a ha); k a o q

theorem valOf_upd_local {x : Str} {v : Value} (hl : env.cells.lookup x = none) (y : Str) : valOf env (fun z => if z = x then some v else m z) cm y = if y = x then some v else valOf env m cm y := by
  unfold valOf
  by_cases e : y = x
  · subst e; rw [hl, if_pos rfl]; simp
  · rw [if_neg e]; simp [e]
theorem valOf_upd_cell {x : Str} {v : Value} {c : Addr} (hl : env.cells.lookup x = some c) (y : Str) : valOf env m (fun z => if z = x then some v else cm z) y = if y = x then some v else valOf env m cm y := by
  unfold valOf
  by_cases e : y = x
  · subst e; rw [hl, if_pos rfl]; simp
  · rw [if_neg e]; simp [e]

theorem live_but {d : Addr} (ho : ∃ o', h'.get? d = some o') (hs : Heap.SameBut d h h') : ∀ a o, h.get? a = some o → ∃ o', h'.get? a = some o' := fun a o e => by
  by_cases q : a = d
  · exact q ▸ ho
  · exact ⟨o, (hs.2 a q).trans e⟩

/-- what a stored value bears -/
noncomputable def Bears (Γ : G) (env : Env) (O : Addr → Prop) (h : Heap) (v : Value) (P : Addr → Prop) : SV → Prop
  | .imm d => Rep O h v d
  | .own ds => ∃ a vs, v = .ref a ∧ LstAt h a vs ∧ RepL O h vs ds ∧ O a ∧ a ≠ Γ.L ∧ Γ.base.get? a = none ∧ (∀ y c, env.cells.lookup y = some c → a ≠ c) ∧ P a

/-- a name is stored: the state behind it, where `c` is what it bears -/
theorem FS.stored {x : Str} {c : SV} {v : Value} (y : FSm Γ env O σ h m cm) (hw : Wr env x)
    (hv : Bears Γ env O h v (fun a => ∀ z ds', z ≠ x → σ z = some (.own ds') → valOf env m cm z ≠ some (.ref a)) c)
    {d : Addr} (hd : O d) (hdown : ∀ a vs, h.IsList a vs → (a ≠ Γ.L) → (∀ y c, env.cells.lookup y = some c → a ≠ c) → a ≠ d) (hs : Heap.SameBut d h h') {m' cm' : Str → Option Value}
    (F' : Fr Γ.base Γ.L h' m') (hc' : ∀ y c, env.cells.lookup y = some c → h'.IsCell c (cm' y)) (hval : ∀ y, valOf env m' cm' y = if y = x then some v else valOf env m cm y) :
    FSm Γ env O (upd σ x c) h' m' cm' := by
  have mv : ∀ a o, h.get? a = some o → ¬ O a → ¬ O a ∧ h'.get? a = some o := fun a o e n => ⟨n, (hs.2 a fun q => n (q ▸ hd)).trans e⟩
  have lst : ∀ a vs, LstAt h a vs → a ≠ Γ.L → (∀ y c, env.cells.lookup y = some c → a ≠ c) → LstAt h' a vs := fun a vs l p q => l.at_ fun o e => (hs.2 a (hdown a _ l.isList p q)).trans e
  refine ⟨F', y.OL, fun z c e => ?_, y.inj, fun z c' e => ?_, fun z c' e => ?_, fun z z' ds ds' a e e' p p' => ?_⟩
  · obtain ⟨p1, p2, p3, _⟩ := y.cell z c e
    exact ⟨p1, p2, p3, hc' z c e⟩
  · unfold upd at e
    by_cases q : z = x
    · rw [q]; exact hw
    · rw [if_neg q] at e; exact y.wr z c' e
  · unfold upd at e
    by_cases q : z = x
    · rw [if_pos q] at e
      cases e
      have hz := hval z
      rw [if_pos q] at hz
      cases c with
      | imm d => exact ⟨v, hz, Rep.move mv hv⟩
      | own ds =>
        obtain ⟨a, vs, rfl, l, r, p1, p2, p3, p4, p5⟩ := hv
        exact ⟨a, vs, hz, lst a _ l p2 p4, r.move mv, p1, p2, p3, p4⟩
    · rw [if_neg q] at e
      have hz := hval z
      rw [if_neg q] at hz
      have := y.var z c' e
      cases c' with
      | imm d => obtain ⟨w, a, b⟩ := this; exact ⟨w, hz.trans a, b.move mv⟩
      | own ds =>
        obtain ⟨a, vs, p, l, r, p1, p2, p3, p4⟩ := this
        exact ⟨a, vs, hz.trans p, lst a _ l p2 p4, r.move mv, p1, p2, p3, p4⟩
  · unfold upd at e e'
    rw [hval] at p p'
    by_cases q : z = x
    · by_cases q' : z' = x
      · rw [q, q']
      · rw [if_pos q] at e p
        rw [if_neg q'] at e' p'
        cases e; cases p
        obtain ⟨a', vs, e1, l, r, p1, p2, p3, p4, p5⟩ := hv
        cases e1
        exact absurd p' (p5 z' ds' q' e')
    · by_cases q' : z' = x
      · rw [if_neg q] at e p
        rw [if_pos q'] at e' p'
        cases e'; cases p'
        obtain ⟨a', vs, e1, l, r, p1, p2, p3, p4, p5⟩ := hv
        cases e1
        exact absurd p (p5 z ds q e)
      · rw [if_neg q] at e p
        rw [if_neg q'] at e' p'
        exact y.apart z z' ds ds' a e e' p p'

theorem isList_ne_cell {a c : Addr} {its : Array Value} {v : Option Value} (l : h.IsList a its) (hc : h.IsCell c v) : a ≠ c := by
  rintro rfl
  obtain ⟨o, e, _, n, d⟩ := l
  obtain ⟨o', e', d'⟩ := hc
  rw [e] at e'; cases e'
  rw [d] at d'; cases d'

/-- storing a name -/
theorem FS.storeC {x : Str} {c : SV} {v : Value} {s : Shared} (X : FS Γ env O σ s.heap) (hw : Wr env x)
    (hv : Bears Γ env O s.heap v (fun a => ∀ z ds' m cm, FSm Γ env O σ s.heap m cm → z ≠ x → σ z = some (.own ds') → valOf env m cm z ≠ some (.ref a)) c)
    {Q : Unit → Shared → Prop} (hQ : ∀ h' tk', FS Γ env O (upd σ x c) h' → Kp O s.heap O h' → (∀ b, b ≠ Γ.L → (∀ y c, env.cells.lookup y = some c → b ≠ c) → h'.get? b = s.heap.get? b) → Q () { s with heap := h', toks := tk' }) :
    wpAny Γ.M Γ.A (storeName env x v) Q No s := by
  obtain ⟨m, cm, y⟩ := X.ex
  have hv' : Bears Γ env O s.heap v (fun a => ∀ z ds', z ≠ x → σ z = some (.own ds') → valOf env m cm z ≠ some (.ref a)) c := by
    cases c with
    | imm d => exact hv
    | own ds =>
      obtain ⟨a, vs, p, l, r, p1, p2, p3, p4, p5⟩ := hv
      exact ⟨a, vs, p, l, r, p1, p2, p3, p4, fun z ds' e1 e2 => p5 z ds' m cm y e1 e2⟩
  rcases hw with ⟨⟨hk, hl⟩ | ⟨hk, c', hl⟩, hdb⟩
  · refine wpAny_storeName_local (m := m) hk (by rw [X.loc]; exact y.F.ns) (fun h' hn hs => ?_) (by rw [X.fk]; rfl)
    rw [X.loc] at hn hs
    refine hQ h' _ ⟨X.loc, X.fk, X.alive.kp (fun _ e => e) (live_but (by obtain ⟨o, _, _, e, _⟩ := hn; exact ⟨o, e⟩) hs), X.sub, ⟨_, cm, FS.stored y ⟨.inl ⟨hk, hl⟩, hdb⟩ hv' y.OL (fun a vs _ p _ => p) hs (y.F.set hn hs) (fun z c e => ?_) (valOf_upd_local hl)⟩⟩ (Kp.but y.OL hs) (fun b h1 _ => hs.2 b h1)
    obtain ⟨_, p2, _, o, ho, hd⟩ := y.cell z c e
    exact ⟨o, (hs.2 c p2).trans ho, hd⟩
  · obtain ⟨oc, pL, pb, hcell⟩ := y.cell x c' hl
    refine wpAny_storeName_cell X.fk hk hl hcell fun h' hc hs => ?_
    refine hQ h' _ ⟨X.loc, X.fk, X.alive.kp (fun _ e => e) (live_but (by obtain ⟨o, e, _⟩ := hc; exact ⟨o, e⟩) hs), X.sub, ⟨m, _, FS.stored y ⟨.inr ⟨hk, c', hl⟩, hdb⟩ hv' oc (fun a vs _ _ q => q x c' hl) hs (y.F.change hs pL pb) (fun z c e => ?_) (valOf_upd_cell hl)⟩⟩ (Kp.but oc hs) (fun b _ h2 => hs.2 b (h2 x c' hl))
    by_cases q : z = x
    · rw [q, hl] at e
      cases e
      simpa [q] using hc
    · obtain ⟨_, _, _, o, ho, hd⟩ := y.cell z c e
      have ne : c ≠ c' := fun z' => q (y.inj z x c e (z' ▸ hl))
      exact ⟨o, (hs.2 c ne).trans ho, by simpa [q] using hd⟩
/-- storing a name -/
theorem FS.store {x : Str} {c : SV} {v : Value} {s : Shared} (X : FS Γ env O σ s.heap) (hw : Wr env x)
    (hv : Bears Γ env O s.heap v (fun a => ∀ z ds' m cm, FSm Γ env O σ s.heap m cm → z ≠ x → σ z = some (.own ds') → valOf env m cm z ≠ some (.ref a)) c)
    {Q : Unit → Shared → Prop} (hQ : ∀ h' tk', FS Γ env O (upd σ x c) h' → Kp O s.heap O h' → Q () { s with heap := h', toks := tk' }) :
    wpAny Γ.M Γ.A (storeName env x v) Q No s :=
  FS.storeC X hw hv fun h' tk' a b _ => hQ h' tk' a b

end

/-! part L4 -/
/-! statements -/
inductive Out where
  | next (σ : Store)
  | brk (σ : Store)
  | cont (σ : Store)
  | ret (d : D)

noncomputable def AfterAt (Γ : G) (env : Env) (O' : Addr → Prop) (h' : Heap) : Out → Flow → Prop
  | .next σ, .next => FS Γ env O' σ h'
  | .brk σ, .brk => FS Γ env O' σ h'
  | .cont σ, .cont => FS Γ env O' σ h'
  | .ret d, .ret v => FrOk Γ h' ∧ (∀ a, Γ.O₀ a → O' a) ∧ Rep O' h' v d
  | _, _ => False
noncomputable def After (Γ : G) (env : Env) (O : Addr → Prop) (s : Shared) (R : Out → Prop) (fl : Flow) (s' : Shared) : Prop :=
  ∃ o h' tk' O', R o ∧ s' = { s with heap := h', toks := tk' } ∧ Kp O s.heap O' h' ∧ AfterAt Γ env O' h' o fl

structure Ex (Γ : G) (env : Env) (σ : Store) (b : List Stmt) (R : Out → Prop) : Prop where
  run : ∀ O s, FS Γ env O σ s.heap → wpAny Γ.M Γ.A (execs b env) (After Γ env O s R) No s
structure Ex1 (Γ : G) (env : Env) (σ : Store) (st : Stmt) (R : Out → Prop) : Prop where
  run : ∀ O s, FS Γ env O σ s.heap → wpAny Γ.M Γ.A (exec st env) (After Γ env O s R) No s

section
variable {Γ : G} {env : Env} {σ : Store} {R : Out → Prop} {O : Addr → Prop} {s : Shared}

theorem AfterAt.elim {P : Out → Flow → Prop} {O' : Addr → Prop} {h' : Heap} {o : Out} {fl : Flow} (n : ∀ σ, AfterAt Γ env O' h' (.next σ) .next → P (.next σ) .next) (b : ∀ σ, AfterAt Γ env O' h' (.brk σ) .brk → P (.brk σ) .brk)
    (c : ∀ σ, AfterAt Γ env O' h' (.cont σ) .cont → P (.cont σ) .cont) (r : ∀ d v, AfterAt Γ env O' h' (.ret d) (.ret v) → P (.ret d) (.ret v)) (q : AfterAt Γ env O' h' o fl) : P o fl :=
  match o, fl, q with
  | .next σ, .next, q => n σ q
  | .brk σ, .brk, q => b σ q
  | .cont σ, .cont, q => c σ q
  | .ret d, .ret v, q => r d v q
theorem AfterAt.out {O' : Addr → Prop} {h' : Heap} {o : Out} {fl : Flow} (q : AfterAt Γ env O' h' o fl) :
    (∃ σ, o = .next σ ∧ fl = .next ∧ FS Γ env O' σ h') ∨ (∃ σ, o = .brk σ ∧ fl = .brk ∧ FS Γ env O' σ h') ∨ (∃ σ, o = .cont σ ∧ fl = .cont ∧ FS Γ env O' σ h') ∨ ∃ d v, o = .ret d ∧ fl = .ret v ∧ AfterAt Γ env O' h' (.ret d) (.ret v) :=
  AfterAt.elim (P := fun o fl => (∃ σ, o = .next σ ∧ fl = .next ∧ FS Γ env O' σ h') ∨ (∃ σ, o = .brk σ ∧ fl = .brk ∧ FS Γ env O' σ h') ∨ (∃ σ, o = .cont σ ∧ fl = .cont ∧ FS Γ env O' σ h') ∨ ∃ d v, o = .ret d ∧ fl = .ret v ∧ AfterAt Γ env O' h' (.ret d) (.ret v))
    (fun σ q => .inl ⟨σ, rfl, rfl, q⟩) (fun σ q => .inr (.inl ⟨σ, rfl, rfl, q⟩)) (fun σ q => .inr (.inr (.inl ⟨σ, rfl, rfl, q⟩))) (fun d v q => .inr (.inr (.inr ⟨d, v, rfl, rfl, q⟩))) q
noncomputable def NextI (Γ : G) (env : Env) (O' : Addr → Prop) (h' : Heap) (fl : Flow) : Out → Prop
  | .next σ => fl = .next ∧ FS Γ env O' σ h'
  | .ret d => ∃ v, fl = .ret v ∧ FrOk Γ h' ∧ (∀ a, Γ.O₀ a → O' a) ∧ Rep O' h' v d
  | _ => True
theorem AfterAt.inv {O' : Addr → Prop} {h' : Heap} {o : Out} {fl : Flow} (q : AfterAt Γ env O' h' o fl) : NextI Γ env O' h' fl o :=
  AfterAt.elim (P := fun o fl => NextI Γ env O' h' fl o) (fun _ q => ⟨rfl, q⟩) (fun _ _ => trivial) (fun _ _ => trivial) (fun _ v q => ⟨v, rfl, q⟩) q
theorem After.mono {R' : Out → Prop} (hR : ∀ o, R o → R' o) {fl : Flow} {s' : Shared} (x : After Γ env O s R fl s') : After Γ env O s R' fl s' := by
  obtain ⟨o, h', tk', O', p, q⟩ := x
  exact ⟨o, h', tk', O', hR o p, q⟩
theorem After.trans {h₁ : Heap} {tk₁ : Nat} {O₁ : Addr → Prop} (k : Kp O s.heap O₁ h₁) {fl : Flow} {s' : Shared} (x : After Γ env O₁ { s with heap := h₁, toks := tk₁ } R fl s') : After Γ env O s R fl s' := by
  obtain ⟨o, h', tk', O', p, rfl, k', q⟩ := x
  exact ⟨o, h', tk', O', p, rfl, k.trans k', q⟩
theorem Ex.mono {b : List Stmt} {R' : Out → Prop} (h : Ex Γ env σ b R) (hR : ∀ o, R o → R' o) : Ex Γ env σ b R' :=
  ⟨fun O s x => wpAny_mono (h.run O s x) (fun _ _ y => y.mono hR) fun _ _ e => e⟩
theorem Ex.nil (h : R (.next σ)) : Ex Γ env σ [] R := ⟨fun O s x => wpAny_execs_nil ⟨.next σ, s.heap, s.toks, O, h, rfl, Kp.refl, x⟩⟩
noncomputable def seqR (Γ : G) (env : Env) (rest : List Stmt) (R : Out → Prop) : Out → Prop
  | .next σ' => Ex Γ env σ' rest R
  | o => R o
theorem Ex.cons {st : Stmt} {rest : List Stmt} (h : Ex1 Γ env σ st (seqR Γ env rest R)) : Ex Γ env σ (st :: rest) R := by
  constructor; intro O s x
  refine wpAny_execs_cons (wpAny_mono (h.run O s x) (fun fl s' y => ?_) fun _ _ e => e)
  obtain ⟨o, h', tk', O', p, rfl, k, q⟩ := y
  rcases q.out with ⟨σ', rfl, rfl, q⟩ | ⟨σ', rfl, rfl, q⟩ | ⟨σ', rfl, rfl, q⟩ | ⟨d, v, rfl, rfl, q⟩
  · exact wpAny_mono (Ex.run p O' { s with heap := h', toks := tk' } q) (fun _ _ y => y.trans k) fun _ _ e => e
  · exact ⟨.brk σ', h', tk', O', p, rfl, k, q⟩
  · exact ⟨.cont σ', h', tk', O', p, rfl, k, q⟩
  · exact ⟨.ret d, h', tk', O', p, rfl, k, q⟩

theorem Ex1.ret {e : Expr} {d : D} {pos : Pos} (he : Ev Γ env σ e d) (hR : R (.ret d)) : Ex1 Γ env σ (.Return (some e) pos) R := by
  constructor; intro O s x
  refine wpAny_Return_some (he.run O s x.ok _ fun v h' tk' g r => ?_)
  exact ⟨.ret d, h', tk', O, hR, rfl, Kp.grow g, x.ok.fr.grow g, x.sub, r⟩
theorem Ex1.brk {pos : Pos} (hR : R (.brk σ)) : Ex1 Γ env σ (.Break pos) R := by
  constructor; intro O s x
  exact wpAny_Break ⟨.brk σ, s.heap, s.toks, O, hR, rfl, Kp.refl, x⟩
theorem Ex1.ite {e : Expr} {b : Bool} {body orelse : List Stmt} {pos : Pos} (ht : EvT Γ env σ e b) (h1 : b = true → Ex Γ env σ body R) (h2 : b = false → Ex Γ env σ orelse R) : Ex1 Γ env σ (.If e body orelse pos) R := by
  constructor; intro O s x
  refine wpAny_If (ht.run O s x.ok _ fun h' tk' g => ?_)
  cases b with
  | true => rw [if_pos rfl]; exact wpAny_mono ((h1 rfl).run O _ (x.grow g)) (fun _ _ y => y.trans (Kp.grow g)) fun _ _ e => e
  | false => rw [if_neg Bool.false_ne_true]; exact wpAny_mono ((h2 rfl).run O _ (x.grow g)) (fun _ _ y => y.trans (Kp.grow g)) fun _ _ e => e
theorem Ex1.assign {y : Str} {p pos : Pos} {e : Expr} {d : D} (he : Ev Γ env σ e d) (hw : Wr env y) (hR : R (.next (upd σ y (.imm d)))) (hs : noComp e = true) :
    Ex1 Γ env σ (.Assign [.Name y p] e pos) R := by
  constructor; intro O s x
  refine wpAny_Assign_Name (he.run O s x.ok _ fun v h' tk' g r => ?_) (swap_plain hs)
  refine FS.store (s := { s with heap := h', toks := tk' }) (c := .imm d) (x.grow g) hw r fun h₂ tk₂ X k => ?_
  exact ⟨_, h₂, tk₂, O, hR, rfl, (Kp.grow g).trans k, X⟩

/-- a list that is new -/
structure EvN (Γ : G) (env : Env) (ρ : Store) (e : Expr) (ds : List D) : Prop where
  run : ∀ (O : Addr → Prop) (s : Shared), Ok Γ env O ρ s.heap → ∀ Q : Value → Shared → Prop,
    (∀ a vs h' tk', s.heap.StaysIn h' → s.heap.get? a = none → LstAt h' a vs → RepL (fun b => O b ∨ b = a) h' vs ds → Q (.ref a) { s with heap := h', toks := tk' }) → wpAny Γ.M Γ.A (eval e env) Q No s
theorem EvN.of_eq {e : Expr} {d d' : List D} (h : EvN Γ env σ e d) (q : d = d') : EvN Γ env σ e d' := q ▸ h
theorem fresh_size {h h' : Heap} (g : h.StaysIn h') (h0 : ∀ a o, h.get? a = some o → a < h'.objs.size) : h.get? h'.objs.size = none := by
  cases e : h.get? h'.objs.size with
  | none => rfl
  | some o => exact absurd (h0 _ _ e) (Nat.lt_irrefl _)
theorem fresh_of {h h' : Heap} (g : h.StaysIn h') : h.get? h'.objs.size = none := by
  cases e : h.get? h'.objs.size with
  | none => rfl
  | some o => exact absurd (Heap.lt_size (g _ _ e)) (Nat.lt_irrefl _)
theorem EvN.lst {es : List Expr} {pos : Pos} {ds : List D} (h : EvS Γ env σ pos es ds) (hz : ds.length ≤ sizeLine) : EvN Γ env σ (.List es pos) ds := by
  constructor; intro O s ok Q hQ
  refine List_ (h.run O s ok _ fun vs h' tk' k r => ?_)
  have up : h'.StaysIn (h'.push { cls := .type "list", data := .seq vs.toArray }) := fun b o e => Heap.get?_push_of_some _ e
  refine wpAny_newObj_type (hQ _ vs _ _ (StaysIn.trans k up) (fresh_of k) ⟨0, Heap.get?_push_size _ rfl⟩ (r.move fun b o e n => ⟨fun q => ?_, up b o e⟩)) ?_
  · rcases q with q | q
    · exact n q
    · exact absurd (Heap.lt_size e) (by rw [q]; exact Nat.lt_irrefl _)
  · show vs.toArray.size ≤ sizeLine
    rw [List.size_toArray, r.length]; exact hz

theorem FS.own {h h' : Heap} {a : Addr} (x : FS Γ env O σ h) (g : h.StaysIn h') (ha : h.get? a = none) (hl : ∃ o, h'.get? a = some o) : FS Γ env (fun b => O b ∨ b = a) σ h' := by
  obtain ⟨m, cm, y⟩ := x.ex
  have mv : ∀ b o, h.get? b = some o → ¬ O b → ¬ (O b ∨ b = a) ∧ h'.get? b = some o := fun b o e n => ⟨fun q => q.elim n fun q => (by rw [q, ha] at e; cases e), g b o e⟩
  refine ⟨x.loc, x.fk, fun b hb => hb.elim (fun q => (x.alive.grow g) b q) (fun q => q ▸ hl), fun b hb => .inl (x.sub b hb), m, cm, y.F.keeps g, .inl y.OL, fun z c e => ?_, y.inj, y.wr, fun z c e => ?_, y.apart⟩
  · obtain ⟨p1, p2, p3, o, ho, hd⟩ := y.cell z c e
    exact ⟨.inl p1, p2, p3, o, g _ _ ho, hd⟩
  · have := y.var z c e
    cases c with
    | imm d => obtain ⟨v, p, r⟩ := this; exact ⟨v, p, r.move mv⟩
    | own ds => obtain ⟨b, vs, p, l, r, q1, q2⟩ := this; exact ⟨b, vs, p, l.at_ fun o e => g b o e, r.move mv, .inl q1, q2⟩
theorem Ex1.assignN {y : Str} {p pos : Pos} {e : Expr} {ds : List D} (he : EvN Γ env σ e ds) (hw : Wr env y) (hR : R (.next (upd σ y (.own ds)))) (hs : noComp e = true) :
    Ex1 Γ env σ (.Assign [.Name y p] e pos) R := by
  constructor; intro O s x
  refine wpAny_Assign_Name (he.run O s x.ok _ fun a vs h' tk' g hn l r => ?_) (swap_plain hs)
  have x' := x.own g hn (by obtain ⟨o, e⟩ := l; exact ⟨_, e⟩)
  obtain ⟨m, cm, y'⟩ := x.ex
  have nx : ∀ b o, s.heap.get? b = some o → a ≠ b := fun b o e q => by rw [← q, hn] at e; cases e
  refine FS.store (s := { s with heap := h', toks := tk' }) (c := .own ds) x' hw ⟨a, vs, rfl, l, r, .inr rfl, ?_, ?_, ?_, ?_⟩ fun h₂ tk₂ X k => ?_
  · obtain ⟨o, e⟩ := x.alive _ y'.OL
    exact nx _ o e
  · cases q : Γ.base.get? a with
    | none => rfl
    | some o => exact absurd (y'.F.keep _ _ q) (by rw [hn]; intro h; cases h)
  · intro z c e
    obtain ⟨_, _, _, o, ho, _⟩ := y'.cell z c e
    exact nx _ o ho
  · intro z ds' m₂ cm₂ y₂ hz e q
    obtain ⟨b, vs', q', l', r', q1, q2, q3, q4⟩ := y₂.var z _ e
    rw [q] at q'
    cases q'
    rcases q1 with q1 | q1
    · obtain ⟨o, e⟩ := x.alive _ q1
      rw [hn] at e; cases e
    · -- the address is new: the old state cannot bear it
      have hv := y₂.var z _ e
      have hw' := y₂.wr z _ e
      obtain ⟨v0, hv0⟩ : ∃ b0 vs0, valOf env m cm z = some (.ref b0) ∧ s.heap.IsList b0 vs0 := by
        obtain ⟨b0, vs0, e0, l0, _⟩ := y'.var z _ e
        exact ⟨b0, _, e0, l0.isList⟩
      obtain ⟨vs0, e0, l0⟩ := hv0
      -- both maps read the same heap
      have same : valOf env m₂ cm₂ z = valOf env m cm z := by
        unfold valOf
        cases hc : env.cells.lookup z with
        | none =>
          show m₂ z = m z
          obtain ⟨o1, es1, ep1, g1, d1, k1, f1⟩ := y'.F.ns
          obtain ⟨o2, es2, ep2, g2, d2, k2, f2⟩ := y₂.F.ns
          have : h'.get? Γ.L = some o1 := g _ _ g1
          rw [show h'.get? Γ.L = some o2 from g2] at this
          cases this
          rw [d1] at d2; cases d2
          rw [← f1, ← f2]
        | some c =>
          show cm₂ z = cm z
          obtain ⟨_, _, _, o1, g1, d1⟩ := y'.cell z c hc
          obtain ⟨_, _, _, o2, g2, d2⟩ := y₂.cell z c hc
          have : h'.get? c = some o1 := g _ _ g1
          rw [show h'.get? c = some o2 from g2] at this
          cases this
          rw [d1] at d2
          exact (Data.cell.inj d2).symm
      rw [same, e0] at q
      cases q
      obtain ⟨o, e, _⟩ := l0
      rw [hn] at e; cases e
  · exact ⟨_, h₂, tk₂, _, hR, rfl, Kp.trans (fun b o e n => ⟨fun q => q.elim n fun q => (by rw [q, hn] at e; cases e), g b o e⟩) k, X⟩
end

/-! part L5 -/
section
variable {Γ : G} {env : Env} {σ : Store} {R : Out → Prop} {O : Addr → Prop} {s : Shared}

/-- a list of its own is changed in place -/
theorem FS.mut {h h' : Heap} {x : Str} {ds ds' : List D} {a : Addr} {vs' : List Value} (X : FS Γ env O σ h) (hx : σ x = some (.own ds)) {v₀ : List Value} (ha : ∀ m cm, FSm Γ env O σ h m cm → valOf env m cm x = some (.ref a))
    (hs : Heap.SameBut a h h') (hl : LstAt h' a vs') (hr : RepL O h vs' ds') : FS Γ env O (upd σ x (.own ds')) h' ∧ Kp O h O h' := by
  obtain ⟨m, cm, y⟩ := X.ex
  have e := ha m cm y
  obtain ⟨b, vs, e1, l, r, p1, p2, p3, p4⟩ := y.var x _ hx
  rw [e] at e1
  cases e1
  have mv : ∀ b o, h.get? b = some o → ¬ O b → ¬ O b ∧ h'.get? b = some o := fun b o e n => ⟨n, (hs.2 b fun q => n (q ▸ p1)).trans e⟩
  refine ⟨⟨X.loc, X.fk, X.alive.kp (fun _ e => e) (live_but (by obtain ⟨n, e⟩ := hl; exact ⟨_, e⟩) hs), X.sub, m, cm, y.F.change hs p2 p3, y.OL, fun z c e => ?_, y.inj, fun z c e => ?_, fun z c e => ?_, fun z z' d1 d2 b e e' q q' => ?_⟩, Kp.but p1 hs⟩
  · obtain ⟨q1, q2, q3, o, ho, hd⟩ := y.cell z c e
    exact ⟨q1, q2, q3, o, (hs.2 c fun q => p4 z c e q.symm).trans ho, hd⟩
  · unfold upd at e
    by_cases q : z = x
    · rw [q]; exact y.wr x _ hx
    · rw [if_neg q] at e; exact y.wr z c e
  · unfold upd at e
    by_cases q : z = x
    · rw [if_pos q] at e; cases e
      exact ⟨a, vs', by rw [q]; assumption, hl, hr.move mv, p1, p2, p3, p4⟩
    · rw [if_neg q] at e
      have := y.var z c e
      cases c with
      | imm d => obtain ⟨v, w1, w2⟩ := this; exact ⟨v, w1, w2.move mv⟩
      | own ds2 =>
        obtain ⟨b, vs2, w1, w2, w3, w4⟩ := this
        have ne : b ≠ a := fun q2 => q (y.apart z x ds2 ds a e hx (q2 ▸ w1) (by assumption))
        exact ⟨b, vs2, w1, w2.at_ fun o e => (hs.2 b ne).trans e, w3.move mv, w4⟩
  · unfold upd at e e'
    by_cases w : z = x
    · by_cases w' : z' = x
      · rw [w, w']
      · rw [if_neg w'] at e'
        exact y.apart z z' ds d2 b (by rw [w]; exact hx) e' q q'
    · rw [if_neg w] at e
      by_cases w' : z' = x
      · exact y.apart z z' d1 ds b e (by rw [w']; exact hx) q q'
      · rw [if_neg w'] at e'
        exact y.apart z z' d1 d2 b e e' q q'

/-- the address of a list of its own, read through the name -/
noncomputable def OwnAt (Γ : G) (env : Env) (O : Addr → Prop) (σ : Store) (h : Heap) (x : Str) (a : Addr) : Prop := ∀ m cm, FSm Γ env O σ h m cm → valOf env m cm x = some (.ref a)
theorem maps_same {h h' : Heap} {O' : Addr → Prop} {m cm m' cm' : Str → Option Value} (g : h.StaysIn h') (y : FSm Γ env O σ h m cm) (y' : FSm Γ env O' σ h' m' cm') : ∀ z, valOf env m' cm' z = valOf env m cm z := by
  intro z
  unfold valOf
  cases hc : env.cells.lookup z with
  | none =>
    show m' z = m z
    obtain ⟨o1, es1, ep1, g1, d1, k1, f1⟩ := y.F.ns
    obtain ⟨o2, es2, ep2, g2, d2, k2, f2⟩ := y'.F.ns
    have : h'.get? Γ.L = some o1 := g _ _ g1
    rw [show h'.get? Γ.L = some o2 from g2] at this
    cases this
    rw [d1] at d2; cases d2
    rw [← f1, ← f2]
  | some c =>
    show cm' z = cm z
    obtain ⟨_, _, _, o1, g1, d1⟩ := y.cell z c hc
    obtain ⟨_, _, _, o2, g2, d2⟩ := y'.cell z c hc
    have : h'.get? c = some o1 := g _ _ g1
    rw [show h'.get? c = some o2 from g2] at this
    cases this
    rw [d1] at d2
    exact (Data.cell.inj d2).symm
theorem FS.ownName {x : Str} {pos : Pos} {ds : List D} (X : FS Γ env O σ s.heap) (hx : σ x = some (.own ds)) {Q : Value → Shared → Prop}
    (hQ : ∀ a vs, OwnAt Γ env O σ s.heap x a → LstAt s.heap a vs → RepL O s.heap vs ds → Q (.ref a) s) : wpAny Γ.M Γ.A (eval (.Name x pos) env) Q No s := by
  obtain ⟨m, cm, y⟩ := X.ex
  obtain ⟨a, vs, e, l, r, p⟩ := y.var x _ hx
  have q : OwnAt Γ env O σ s.heap x a := fun m' cm' y' => (maps_same (StaysIn.refl _) y y' x).trans e
  have hw := y.wr x _ hx
  rcases hw with ⟨⟨hk, hl⟩ | ⟨hk, c, hl⟩, hdb⟩
  · unfold valOf at e; rw [hl] at e
    exact wpAny_Name (wpAny_loadName_local (m := m) X.fk hk (by rw [X.loc]; exact y.F.ns) e (hQ a vs q l r)) hdb
  · unfold valOf at e; rw [hl] at e
    obtain ⟨_, _, _, o, ho, hcd⟩ := y.cell x c hl
    exact wpAny_Name (wpAny_loadName_cell X.fk hk hl ⟨o, ho, by rw [hcd]; exact congrArg _ e⟩ (hQ a vs q l r)) hdb
theorem OwnAt.grow {h h' : Heap} {x : Str} {a : Addr} (X : FS Γ env O σ h) (q : OwnAt Γ env O σ h x a) (g : h.StaysIn h') : OwnAt Γ env O σ h' x a := by
  obtain ⟨m, cm, y⟩ := X.ex
  exact fun m' cm' y' => (maps_same g y y' x).trans (q m cm y)

theorem setIf_list (vs : List Value) (k : Nat) (v : Value) : vs.toArray.setIfInBounds k v = (vs.set k v).toArray := by
  apply Array.toList_inj.mp
  simp
theorem setItem_own {x : Str} {ds : List D} {a : Addr} {vs : List Value} {k : Int} {t : Tok} {v : Value} {d : D} (X : FS Γ env O σ s.heap) (hx : σ x = some (.own ds)) (q : OwnAt Γ env O σ s.heap x a) (l : LstAt s.heap a vs) (r : RepL O s.heap vs ds)
    (h0 : 0 ≤ k) (hk : k < (ds.length : Int)) (hz : ds.length ≤ sizeLine) (rv : Rep O s.heap v d) {Q : Unit → Shared → Prop}
    (hQ : ∀ h' tk', FS Γ env O (upd σ x (.own (ds.set k.toNat d))) h' → Kp O s.heap O h' → Q () { s with heap := h', toks := tk' }) : wpAny Γ.M Γ.A (setItem (.ref a) (.int k t) v) Q No s := by
  obtain ⟨n, e⟩ := l
  have hk' : k < (vs.toArray.size : Int) := by rw [List.size_toArray, r.length]; exact hk
  have h63 : k < 2 ^ 63 := by
    have : sizeLine = 2 ^ 24 := rfl
    have h2 : (ds.length : Int) ≤ ((2 ^ 24 : Nat) : Int) := by rw [← this]; exact Int.ofNat_le.mpr hz
    have h3 : ((2 ^ 24 : Nat) : Int) < 2 ^ 63 := by decide
    omega
  refine ki_setAt e h0 h63 hk' ?_
  have hs := Heap.SameBut.update (h := s.heap) a (Obj.mapSeq (·.setIfInBounds k.toNat v))
  have u := PySem.IsL.update e (·.setIfInBounds k.toNat v)
  rw [setIf_list] at u
  have z := X.mut hx (v₀ := vs) q hs (vs' := vs.set k.toNat v) ⟨_, u⟩ (r.set rv)
  exact hQ _ s.toks z.1 z.2

theorem Ex1.setItem {x : Str} {p pos pos' : Pos} {ei e : Expr} {ds : List D} {k : Int} {d : D} (hx : σ x = some (.own ds)) (he : Ev Γ env σ e d) (hi : Ev Γ env σ ei (.int k)) (h0 : 0 ≤ k) (hk : k < (ds.length : Int)) (hz : ds.length ≤ sizeLine)
    (hR : R (.next (upd σ x (.own (ds.set k.toNat d))))) (hs : noComp e = true) : Ex1 Γ env σ (.Assign [.Subscript (.Name x p) ei pos'] e pos) R := by
  constructor; intro O s X
  refine wpAny_Assign_Subscript (he.run O s X.ok _ fun v h₁ tk₁ g₁ r₁ => ?_) (swap_plain hs)
  refine FS.ownName (s := { s with heap := h₁, toks := tk₁ }) (X.grow g₁) hx fun a vs q l r => ?_
  refine hi.run O _ (X.grow g₁).ok _ fun v₂ h₂ tk₂ g₂ r₂ => ?_
  obtain ⟨_, rfl⟩ := r₂.inv
  have X₁ := X.grow g₁
  refine setItem_own (s := { s with heap := h₂, toks := tk₂ }) (X₁.grow g₂) hx (OwnAt.grow X₁ q g₂) (l.at_ fun o e => g₂ _ _ e) (r.grow g₂) h0 hk hz (r₁.grow g₂) fun h₃ tk₃ X₃ k₃ => ?_
  exact ⟨_, h₃, tk₃, O, hR, rfl, (Kp.grow (StaysIn.trans g₁ g₂)).trans k₃, X₃⟩

/-- an operation in place on two ints -/
structure Inp (Γ : G) (op : Operator) (a b c : Int) : Prop where
  run : ∀ (s : Shared) (t u : Tok) (Q : Value → Shared → Prop), (∀ t' tk', Q (.int c t') { s with toks := tk' }) → wpAny Γ.M Γ.A (inplaceOp op (.int a t) (.int b u)) Q No s
theorem Inp.add {a b : Int} : Inp Γ .Add a b (a + b) := ⟨fun _ _ _ _ h => iadd_int (h _ _)⟩
theorem Inp.sub {a b : Int} : Inp Γ .Sub a b (a - b) := ⟨fun _ _ _ _ h => AutoIntOps.isub_0 (h _ _)⟩
theorem Inp.or {a b : Int} : Inp Γ .BitOr a b (Builtin.bitOr a b) := ⟨fun _ _ _ _ h => ior_int (h _ _)⟩
theorem Inp.shl {a n : Int} (hn : 0 ≤ n) (hsz : (Builtin.Int.intBits a : Int) + n ≤ 2 ^ 27) : Inp Γ .LShift a n (a * 2 ^ n.toNat) := ⟨fun _ _ _ _ h => ilshift_int hn hsz (h _ _)⟩
theorem Ex1.augItem {x : Str} {p pos pos' : Pos} {op : Operator} {ei e : Expr} {ds : List D} {k a b c : Int} (hx : σ x = some (.own ds)) (hi : Ev Γ env σ ei (.int k)) (he : Ev Γ env σ e (.int b)) (h0 : 0 ≤ k) (hd : ds[k.toNat]? = some (.int a)) (hz : ds.length ≤ sizeLine)
    (ho : Inp Γ op a b c) (hR : R (.next (upd σ x (.own (ds.set k.toNat (.int c))))))
    (hs : noSlice ei = true) : Ex1 Γ env σ (.AugAssign (.Subscript (.Name x p) ei pos') op e pos) R := by
  constructor; intro O s X
  have hk : k < (ds.length : Int) := by
    rcases Nat.lt_or_ge k.toNat ds.length with h | h
    · omega
    · rw [List.getElem?_eq_none h] at hd; cases hd
  have h63 : k < 2 ^ 63 := by
    have : sizeLine = 2 ^ 24 := rfl
    have h2 : (ds.length : Int) ≤ ((2 ^ 24 : Nat) : Int) := by rw [← this]; exact Int.ofNat_le.mpr hz
    have h3 : ((2 ^ 24 : Nat) : Int) < 2 ^ 63 := by decide
    omega
  refine wpAny_AugAssign_Subscript_any ?_ (aug_plain hs)
  refine FS.ownName X hx fun a₀ vs q l r => ?_
  refine hi.run O _ X.ok _ fun v₁ h₁ tk₁ g₁ r₁ => ?_
  obtain ⟨_, rfl⟩ := r₁.inv
  have X₁ := X.grow g₁
  obtain ⟨y, e1, e2⟩ := (r.grow g₁).get hd
  have l₁ := (l.at_ fun o e => g₁ a₀ o e)
  refine wpAny_getItem_list l₁.isList h0 h63 (by simpa using e1) ?_
  obtain ⟨_, rfl⟩ := e2.inv
  refine he.run O { s with heap := h₁, toks := tk₁ } X₁.ok _ fun v₂ h₂ tk₂ g₂ r₂ => ?_
  obtain ⟨_, rfl⟩ := r₂.inv
  refine ho.run _ _ _ _ fun t' tk' => ?_
  refine setItem_own (s := { s with heap := h₂, toks := tk' }) (X₁.grow g₂) hx (OwnAt.grow X₁ (OwnAt.grow X q g₁) g₂) (l₁.at_ fun o e => g₂ _ _ e) ((r.grow g₁).grow g₂) h0 hk hz (.int _ _) fun h₃ tk₃ X₃ k₃ => ?_
  exact ⟨_, h₃, tk₃, O, hR, rfl, (Kp.grow (StaysIn.trans g₁ g₂)).trans k₃, X₃⟩

theorem Ex1.aug {x : Str} {p pos : Pos} {op : Operator} {e : Expr} {a b c : Int} (hx : σ x = some (.imm (.int a))) (he : Ev Γ env σ e (.int b)) (ho : Inp Γ op a b c) (hR : R (.next (upd σ x (.imm (.int c))))) : Ex1 Γ env σ (.AugAssign (.Name x p) op e pos) R := by
  constructor; intro O s X
  refine wpAny_AugAssign_Name ?_
  obtain ⟨m, cm, y⟩ := X.ex
  have hw := y.wr x _ hx
  obtain ⟨v, ev, rv⟩ := y.var x _ hx
  obtain ⟨_, rfl⟩ := rv.inv
  have key : wpAny Γ.M Γ.A (eval e env) (fun v s₂ => wpAny Γ.M Γ.A (inplaceOp op (.int a ‹Tok›) v) (fun r s₃ => wpAny Γ.M Γ.A (storeName env x r) (fun _ => After Γ env O s R .next) No s₃) No s₂) No s := by
    refine he.run O s X.ok _ fun v₂ h₂ tk₂ g₂ r₂ => ?_
    obtain ⟨_, rfl⟩ := r₂.inv
    refine ho.run _ _ _ _ fun t' tk' => ?_
    refine FS.store (s := { s with heap := h₂, toks := tk' }) (c := .imm (.int c)) (X.grow g₂) hw (.int _ _) fun h₃ tk₃ X₃ k₃ => ?_
    exact ⟨_, h₃, tk₃, O, hR, rfl, (Kp.grow g₂).trans k₃, X₃⟩
  rcases hw with ⟨⟨hk, hl⟩ | ⟨hk, c', hl⟩, hdb⟩
  · unfold valOf at ev; rw [hl] at ev
    exact wpAny_loadName_local (m := m) X.fk hk (by rw [X.loc]; exact y.F.ns) ev key
  · unfold valOf at ev; rw [hl] at ev
    obtain ⟨_, _, _, o, ho', hcd⟩ := y.cell x c' hl
    exact wpAny_loadName_cell X.fk hk hl ⟨o, ho', by rw [hcd]; exact congrArg _ ev⟩ key

theorem push_list (vs : List Value) (v : Value) : vs.toArray.push v = (vs ++ [v]).toArray := by simp
theorem Ex1.append {x : Str} {p q0 pos pos' : Pos} {e : Expr} {ds : List D} {d : D} (hx : σ x = some (.own ds)) (he : Ev Γ env σ e d) (hz : ds.length ≤ sizeLine) (hR : R (.next (upd σ x (.own (ds ++ [d]))))) 
    (h1 : plainE e = true) (hi : interactive env = false) (hm : (q0.endLine == pos.line) = true) :
    Ex1 Γ env σ (.Expr (.Call (.Attribute (.Name x p) (Str.ofString "append") q0) [e] [] pos) pos') R := by
  constructor; intro O s X
  refine wpAny_Expr ?_ hi (swap_plain rfl)
  obtain ⟨pl, hm⟩ := meth_plain (env := env) (o := .Name x p) (name := Str.ofString "append") (apos := q0) (pos := pos) (args := [e]) rfl (by simp [plainEs, h1]) rfl hm
  refine MethodCall_ (pl := pl) ?_ hm
  refine FS.ownName X hx fun a vs q l r => ?_
  obtain ⟨n, el⟩ := id l
  refine getMethod_builtin ⟨_, el, rfl⟩ PySem.F.plainAttrs_list PySem.slot_list_append PySem.F.type_list_append (fun b hb => by cases hb; exact ⟨_, el, rfl⟩) ?_
  refine callWith_method1 ?_ (star_plain h1) rfl
  refine spliced_more ?_ (star_plain h1)
  refine he.run O s X.ok _ fun v h₁ tk₁ g₁ r₁ => ?_
  refine spliced_none ?_
  have X₁ := X.grow g₁
  refine append_at (s := { s with heap := h₁, toks := tk₁ }) (g₁ _ _ el) (fun h' hs ho' => ?_) (by rw [List.size_toArray, r.length]; exact hz)
  rw [push_list] at ho'
  have z := X₁.mut hx (v₀ := vs) (OwnAt.grow X q g₁) hs (vs' := vs ++ [v]) ⟨_, ho'⟩ ((r.grow g₁).append (.cons _ _ _ _ r₁ .nil))
  exact ⟨_, h', tk₁, O, hR, rfl, (Kp.grow g₁).trans z.2, z.1⟩

/-- a list that is changed no more -/
theorem FS.freeze {h : Heap} {x : Str} {ds : List D} (X : FS Γ env O σ h) (hx : σ x = some (.own ds)) (h0 : ∀ a, Γ.O₀ a → ∃ o, Γ.base.get? a = some o) : ∃ O', FS Γ env O' (upd σ x (.imm (.lst ds))) h ∧ Kp O h O' h := by
  obtain ⟨m, cm, y⟩ := X.ex
  obtain ⟨a, vs, e, l, r, p1, p2, p3, p4⟩ := y.var x _ hx
  have mv : ∀ b o, h.get? b = some o → ¬ O b → ¬ (O b ∧ b ≠ a) ∧ h.get? b = some o := fun b o e n => ⟨fun q => n q.1, e⟩
  refine ⟨fun b => O b ∧ b ≠ a, ⟨X.loc, X.fk, fun b hb => X.alive b hb.1, fun b hb => ⟨X.sub b hb, fun q => ?_⟩, m, cm, y.F, ⟨y.OL, Ne.symm p2⟩, fun z c e => ?_, y.inj, fun z c e => ?_, fun z c e => ?_, fun z z' d1 d2 b e e' q q' => ?_⟩, fun b o e n => mv b o e n⟩
  · obtain ⟨o, e⟩ := h0 b hb
    rw [q, p3] at e; cases e
  · obtain ⟨q1, q2, q3, q4⟩ := y.cell z c e
    exact ⟨⟨q1, Ne.symm (p4 z c e)⟩, q2, q3, q4⟩
  · unfold upd at e
    by_cases q : z = x
    · rw [q]; exact y.wr x _ hx
    · rw [if_neg q] at e; exact y.wr z c e
  · unfold upd at e
    by_cases q : z = x
    · rw [if_pos q] at e; cases e
      exact ⟨.ref a, by rw [q]; assumption, .lst a vs ds (fun q => q.2 rfl) l.isList (r.move mv)⟩
    · rw [if_neg q] at e
      have := y.var z c e
      cases c with
      | imm d => obtain ⟨v, w1, w2⟩ := this; exact ⟨v, w1, w2.move mv⟩
      | own ds2 =>
        obtain ⟨b, vs2, w1, w2, w3, w4, w5⟩ := this
        have ne : b ≠ a := fun q2 => q (y.apart z x ds2 ds a e hx (q2 ▸ w1) (by assumption))
        exact ⟨b, vs2, w1, w2, w3.move mv, ⟨w4, ne⟩, w5⟩
  · unfold upd at e e'
    by_cases w : z = x
    · rw [if_pos w] at e; cases e
    · rw [if_neg w] at e
      by_cases w' : z' = x
      · rw [if_pos w'] at e'; cases e'
      · rw [if_neg w'] at e'
        exact y.apart z z' d1 d2 b e e' q q'
theorem Ex.freeze (x : Str) {ds : List D} {b : List Stmt} (hx : σ x = some (.own ds)) (h0 : ∀ a, Γ.O₀ a → ∃ o, Γ.base.get? a = some o) (h : Ex Γ env (upd σ x (.imm (.lst ds))) b R) : Ex Γ env σ b R := by
  constructor; intro O s X
  obtain ⟨O', X', k⟩ := X.freeze hx h0
  exact wpAny_mono (h.run O' s X') (fun _ _ y => y.trans (s := s) k) fun _ _ e => e
end

/-! part L6 -/
section
variable {Γ : G} {env : Env} {σ : Store} {R : Out → Prop} {O : Addr → Prop} {s : Shared}

/-! targets -/
structure Asg (Γ : G) (env : Env) (t : Expr) (d : D) (σ σ' : Store) : Prop where
  run : ∀ (O : Addr → Prop) (s : Shared) (v : Value), FS Γ env O σ s.heap → Rep O s.heap v d → ∀ Q : Unit → Shared → Prop,
    (∀ h' tk', FS Γ env O σ' h' → Kp O s.heap O h' → Q () { s with heap := h', toks := tk' }) → wpAny Γ.M Γ.A (PySem.assign t env v) Q No s
structure AsgL (Γ : G) (env : Env) (ts : List Expr) (ds : List D) (σ σ' : Store) : Prop where
  run : ∀ (O : Addr → Prop) (s : Shared) (vs : List Value), FS Γ env O σ s.heap → RepL O s.heap vs ds → ∀ Q : Unit → Shared → Prop,
    (∀ h' tk', FS Γ env O σ' h' → Kp O s.heap O h' → Q () { s with heap := h', toks := tk' }) → wpAny Γ.M Γ.A (assignInOrder ((assignEach ts env).map (·.2)) vs) Q No s
theorem Asg.name {x : Str} {p : Pos} {d : D} (hw : Wr env x) : Asg Γ env (.Name x p) d σ (upd σ x (.imm d)) := by
  constructor; intro O s v X r Q hQ
  exact wpAny_assign_Name (FS.store (c := .imm d) X hw r fun h' tk' X' k => hQ h' tk' X' k)
theorem AsgL.nil : AsgL Γ env [] [] σ σ := by
  constructor; intro O s vs X r Q hQ
  obtain rfl := r.inv
  exact assignInOrder_nil (hQ s.heap s.toks X Kp.refl)
theorem AsgL.cons {t : Expr} {ts : List Expr} {d : D} {ds : List D} {σ₁ σ₂ : Store} (h1 : Asg Γ env t d σ σ₁) (h2 : AsgL Γ env ts ds σ₁ σ₂) (he : plainE t = true) :
    AsgL Γ env (t :: ts) (d :: ds) σ σ₂ := by
  constructor; intro O s vs X r Q hQ
  obtain ⟨v, vs, rfl, r1, r2⟩ := r.inv
  rw [asgn_plain he]
  refine assignInOrder_cons (h1.run O s v X r1 _ fun h₁ tk₁ X₁ k₁ => ?_)
  exact h2.run O { s with heap := h₁, toks := tk₁ } vs X₁ (r2.move k₁) _ fun h₂ tk₂ X₂ k₂ => hQ h₂ tk₂ X₂ (k₁.trans k₂)
theorem ext_stays {h h' : Heap} (e : Heap.ExtBut h.objs.size h h') : h.StaysIn h' := fun a o q => e a o (Nat.ne_of_lt (Heap.lt_size q)) q
theorem Asg.tup {k : Nat} (S : Site Γ k) {ts : List Expr} {n : Nat} {p : Pos} {ds : List D} {σ' : Store} (h : AsgL Γ env ts ds σ σ') (hn : ts.length = ds.length) (hs : plainEs ts = true) :
    Asg Γ env (.Tuple ts n p) (.tup ds) σ σ' := by
  constructor; intro O s v X r Q hQ
  obtain ⟨a, vs, rfl, ha, ht, hr⟩ := r.inv
  refine assign_Tuple_tuple S.handled ht (by rw [List.size_toArray, hr.length, asgn_len hs]; exact hn) (asgn_star hs) fun h' he => ?_
  have g := ext_stays he
  exact h.run O { s with heap := h' } vs (X.grow g) (hr.grow g) _ fun h₂ tk₂ X₂ k₂ => hQ h₂ tk₂ X₂ ((Kp.grow g).trans k₂)
theorem Ex1.assignT {ts : List Expr} {n : Nat} {p pos : Pos} {e : Expr} {d : D} {σ' : Store} (he : Ev Γ env σ e d) (ha : Asg Γ env (.Tuple ts n p) d σ σ') (hR : R (.next σ')) (h1 : noComp e = true) (h2 : noTup e = true) : Ex1 Γ env σ (.Assign [.Tuple ts n p] e pos) R := by
  constructor; intro O s X
  refine PyProof.Rows.Assign_Tuple (he.run O s X.ok _ fun v h₁ tk₁ g₁ r₁ => ?_) (sole_plain h1) (stores_plain h2)
  exact ha.run O { s with heap := h₁, toks := tk₁ } v (X.grow g₁) r₁ _ fun h₂ tk₂ X₂ k₂ => ⟨_, h₂, tk₂, O, hR, rfl, (Kp.grow g₁).trans k₂, X₂⟩

/-! loops -/
noncomputable def isName (e : Expr) : Bool := Nat.beq e.ctorIdx 23
structure Stp (Γ : G) (t : Expr) (I : Addr) (wr fp : List Addr) (vs : List Value) (mk : Nat → D → D) (St : Nat → Heap → Prop) : Prop where
  sub : ∀ b ∈ wr, b ∈ fp
  live : ∀ i h, St i h → ∀ b ∈ fp, ∃ o, h.get? b = some o
  cls : ∀ i h, St i h → ∀ b ∈ wr, ∀ o, h.get? b = some o → ¬ SeqObj o
  frame : ∀ i h h', St i h → (∀ b ∈ fp, ∀ o, h.get? b = some o → h'.get? b = some o) → St i h'
  turn : ∀ i v (s : Shared) (Q : Value → Shared → Prop) (K : Option Value → Shared → Prop), vs[i]? = some v → St i s.heap →
    (∀ u s₁, wpAny Γ.M Γ.A (letOwnedTupleGo t (.ref I) u) (fun _ s₂ => Q u s₂) No s₁ → K (some u) s₁) →
    (∀ u h' tk', St (i + 1) h' → (∀ b o, b ∉ wr → s.heap.get? b = some o → h'.get? b = some o) → (∀ O d, Alive O s.heap → Rep O h' v d → Rep O h' u (mk i d)) → Q u { s with heap := h', toks := tk' }) →
    wpAny Γ.M Γ.A (pyNext (.ref I)) K No s
  nxt : isName t = true → ∀ i v (s : Shared) (Q : Option Value → Shared → Prop), vs[i]? = some v → St i s.heap →
    (∀ u h' tk', St (i + 1) h' → (∀ b o, b ∉ wr → s.heap.get? b = some o → h'.get? b = some o) → (∀ O d, Alive O s.heap → Rep O h' v d → Rep O h' u (mk i d)) → Q (some u) { s with heap := h', toks := tk' }) →
    wpAny Γ.M Γ.A (pyNext (.ref I)) Q No s
  done : ∀ (s : Shared) (Q : Option Value → Shared → Prop), St vs.length s.heap → (∀ h' tk', (∀ b o, b ∉ wr → s.heap.get? b = some o → h'.get? b = some o) → Q none { s with heap := h', toks := tk' }) → wpAny Γ.M Γ.A (pyNext (.ref I)) Q No s
  self : ∀ i (s : Shared) (Q : Value → Shared → Prop), St i s.heap → Q (.ref I) s → wpAny Γ.M Γ.A (pyIter (.ref I)) Q No s

/-- what a for goes over -/
structure Src (Γ : G) (env : Env) (σ : Store) (t : Expr) (e : Expr) (mk : Nat → D → D) (items : List D) : Prop where
  run : ∀ (O : Addr → Prop) (s : Shared), Ok Γ env O σ s.heap → ∀ Q : Value → Shared → Prop,
    (∀ I wr fp vs St h' tk', s.heap.StaysIn h' → Stp Γ t I wr fp vs mk St → St 0 h' → RepL O h' vs items → (∀ b ∈ wr, s.heap.get? b = none) → (∀ b ∈ fp, ¬ O b) → Q (.ref I) { s with heap := h', toks := tk' }) →
    wpAny Γ.M Γ.A (eval e env) (fun xv s₁ => wpAny Γ.M Γ.A (pyIter xv) Q No s₁) No s

theorem FS.step {h h' : Heap} {wr : List Addr} (X : FS Γ env O σ h) (k : ∀ b o, b ∉ wr → h.get? b = some o → h'.get? b = some o) (hw : ∀ b ∈ wr, ¬ O b ∧ Γ.base.get? b = none ∧ ∀ o, h.get? b = some o → ¬ SeqObj o) : FS Γ env O σ h' := by
  obtain ⟨m, cm, y⟩ := X.ex
  have inO : ∀ a o, O a → h.get? a = some o → h'.get? a = some o := fun a o ha e => k a o (fun q => (hw a q).1 ha) e
  have mv : ∀ b o, h.get? b = some o → ¬ O b → SeqObj o → ¬ O b ∧ h'.get? b = some o := fun b o e n q => ⟨n, k b o (fun z => (hw b z).2.2 o e q) e⟩
  refine ⟨X.loc, X.fk, fun a ha => ?_, X.sub, m, cm, ⟨y.F.ns.at' fun o e => inO _ o y.OL e, fun b o e => k b o (fun q => ?_) (y.F.keep b o e), y.F.above⟩, y.OL, fun z c e => ?_, y.inj, y.wr, fun z c e => ?_, y.apart⟩
  · obtain ⟨o, e⟩ := X.alive a ha
    exact ⟨o, inO a o ha e⟩
  · rw [(hw b q).2.1] at e; cases e
  · obtain ⟨p1, p2, p3, o, ho, hd⟩ := y.cell z c e
    exact ⟨p1, p2, p3, o, inO c o p1 ho, hd⟩
  · have := y.var z c e
    cases c with
    | imm d => obtain ⟨v, a, b⟩ := this; exact ⟨v, a, b.moveS mv⟩
    | own ds => obtain ⟨a, vs, p, q, r, z1, z2⟩ := this; exact ⟨a, vs, p, q.at_ fun o e => inO a o z1 e, r.moveS mv, z1, z2⟩

noncomputable def loopR (J : Nat → Store → Prop) (i : Nat) (R : Out → Prop) : Out → Prop
  | .next σ => J (i + 1) σ
  | .cont σ => J (i + 1) σ
  | .brk σ => R (.next σ)
  | .ret d => R (.ret d)

theorem Ex1.loop {t it : Expr} {body : List Stmt} {pos : Pos} {mk : Nat → D → D} {items : List D} (J : Nat → Store → Prop) (hsrc : Src Γ env σ t it mk items) (h0 : J 0 σ)
    (step : ∀ i d σ', items[i]? = some d → J i σ' → ∃ σ'', Asg Γ env t (mk i d) σ' σ'' ∧ Ex Γ env σ'' body (loopR J i R)) (done : ∀ σ', J items.length σ' → R (.next σ'))
    (hs : noSet it = true) : Ex1 Γ env σ (.For t it body [] pos) R := by
  constructor; intro O s X
  refine wpAny_For (wpAny_mono (hsrc.run O s X.ok (fun iv s' => ∃ I wr fp vs St h' tk', iv = .ref I ∧ s' = { s with heap := h', toks := tk' } ∧ s.heap.StaysIn h' ∧ Stp Γ t I wr fp vs mk St ∧ St 0 h' ∧ RepL O h' vs items ∧ (∀ b ∈ wr, s.heap.get? b = none) ∧ (∀ b ∈ fp, ¬ O b))
    fun I wr fp vs St h' tk' a b c d e f => ⟨I, wr, fp, vs, St, h', tk', rfl, rfl, a, b, c, d, e, f⟩) (fun _ _ z => wpAny_mono z (fun iv s₂ z => ?_) fun _ _ e => e.elim) fun _ _ e => e.elim) (set_plain hs)
  obtain ⟨I, wr, fp, vs, St, h₀, tk₀, rfl, rfl, g, W, st0, hr, hwr, hfp⟩ := z
  have hlen : vs.length = items.length := hr.length
  have hbase : ∀ b ∈ wr, Γ.base.get? b = none := fun b hb => by
    obtain ⟨m, F⟩ := X.ok.fr
    cases q : Γ.base.get? b with
    | none => rfl
    | some o => have := F.keep b o q; rw [hwr b hb] at this; cases this
  refine codeAny_forLoop_any (fun k s' => ∃ i σ' O' h' tk', s' = { s with heap := h', toks := tk' } ∧ i ≤ items.length ∧ k = items.length + 1 - i ∧ St i h' ∧ FS Γ env O' σ' h' ∧ RepL O' h' vs items ∧ Kp O s.heap O' h' ∧ (∀ b ∈ fp, ¬ O' b) ∧ J i σ') ?_ (items.length + 1)
    ⟨0, σ, O, h₀, tk₀, rfl, Nat.zero_le _, rfl, st0, X.grow g, hr, Kp.grow g, hfp, h0⟩
  rintro k s' ⟨i, σ', O', h', tk', rfl, hi, rfl, st, X', hr', kp, hf', hJ⟩
  have wrok : ∀ b ∈ wr, ¬ O' b ∧ Γ.base.get? b = none ∧ ∀ o, h'.get? b = some o → ¬ SeqObj o := fun b hb => ⟨hf' b (W.sub b hb), hbase b hb, W.cls i h' st b hb⟩
  have kp2 : ∀ h₁ : Heap, (∀ b o, b ∉ wr → h'.get? b = some o → h₁.get? b = some o) → Kp O s.heap O' h₁ := fun h₁ hk a o e n => by
    obtain ⟨n', e'⟩ := kp a o e n
    exact ⟨n', hk a o (fun q => by rw [hwr a q] at e; cases e) e'⟩
  by_cases hlt : i < items.length
  · have hv : vs[i]? = some (vs[i]'(by omega)) := List.getElem?_eq_getElem _
    obtain ⟨d, hd, rd⟩ := hr'.getV hv
    refine wpAny_noRaise (W.turn i _ { s with heap := h', toks := tk' } _ _ hv st (fun u s₁ z => wpAny_noRaise z) fun u h₁ tk₁ st₁ hk₁ hu => ?_)
    have X₁ : FS Γ env O' σ' h₁ := X'.step hk₁ wrok
    have mv : ∀ b o, h'.get? b = some o → ¬ O' b → SeqObj o → ¬ O' b ∧ h₁.get? b = some o := fun b o e n q => ⟨n, hk₁ b o (fun z => (wrok b z).2.2 o e q) e⟩
    have ru := hu O' d X'.alive (rd.moveS mv)
    obtain ⟨σ₂, ha, hb⟩ := step i d σ' hd hJ
    refine wpAny_noRaise (ha.run O' { s with heap := h₁, toks := tk₁ } u X₁ ru _ fun h₂ tk₂ X₂ k₂ => ?_)
    refine wpAny_mono (hb.run O' { s with heap := h₂, toks := tk₂ } X₂) (fun fl s₃ z => ?_) fun _ _ e => e.elim
    obtain ⟨o, h₃, tk₃, O₃, hR, rfl, k₃, q⟩ := z
    have kall : Kp O s.heap O₃ h₃ := (kp2 h₁ hk₁).trans (k₂.trans k₃)
    have again : ∀ σ₃, J (i + 1) σ₃ → FS Γ env O₃ σ₃ h₃ → ∃ m, m < items.length + 1 - i ∧ ∃ i' σ' O' h' tk', ({ s with heap := h₃, toks := tk₃ } : Shared) = { s with heap := h', toks := tk' } ∧ i' ≤ items.length ∧ m = items.length + 1 - i' ∧ St i' h' ∧ FS Γ env O' σ' h' ∧ RepL O' h' vs items ∧ Kp O s.heap O' h' ∧ (∀ b ∈ fp, ¬ O' b) ∧ J i' σ' := by
      intro σ₃ hJ₃ X₃
      have k23 : Kp O' h₁ O₃ h₃ := Kp.trans k₂ k₃
      refine ⟨items.length + 1 - (i + 1), by omega, i + 1, σ₃, O₃, h₃, tk₃, rfl, hlt, rfl, W.frame _ _ _ st₁ fun b hb o e => (k23 b o e (hf' b hb)).2, X₃, (hr'.moveS mv).move k23, kall, fun b hb => ?_, hJ₃⟩
      obtain ⟨o, e⟩ := W.live _ _ st₁ b hb
      exact (k23 b o e (hf' b hb)).1
    rcases q.out with ⟨σ₃, rfl, rfl, q⟩ | ⟨σ₃, rfl, rfl, q⟩ | ⟨σ₃, rfl, rfl, q⟩ | ⟨d, v, rfl, rfl, q⟩
    · exact again σ₃ hR q
    · exact ⟨.next σ₃, h₃, tk₃, O₃, hR, rfl, kall, q⟩
    · exact again σ₃ hR q
    · exact ⟨.ret d, h₃, tk₃, O₃, hR, rfl, kall, q⟩
  · obtain rfl : i = items.length := by omega
    rw [← hlen] at st
    refine wpAny_noRaise (W.done { s with heap := h', toks := tk' } _ st fun h₁ tk₁ hk₁ => wpAny_execs_nil ?_)
    rw [hlen] at st
    exact ⟨.next σ', h₁, tk₁, O', done σ' hJ, rfl, kp2 h₁ hk₁, X'.step hk₁ wrok⟩

noncomputable def whileR (J : Nat → Store → Prop) (n : Nat) (R : Out → Prop) : Out → Prop
  | .next σ => ∃ m, m < n ∧ J m σ
  | .cont σ => ∃ m, m < n ∧ J m σ
  | .brk σ => R (.next σ)
  | .ret d => R (.ret d)
theorem Ex1.while {test : Expr} {body : List Stmt} {pos : Pos} (J : Nat → Store → Prop) (n : Nat) (h0 : J n σ)
    (step : ∀ n σ', J n σ' → ∃ b, EvT Γ env σ' test b ∧ (b = true → Ex Γ env σ' body (whileR J n R)) ∧ (b = false → R (.next σ'))) : Ex1 Γ env σ (.While test body [] pos) R := by
  constructor; intro O s X
  refine wpAny_While ?_
  refine codeAny_whileLoop (fun k s' => ∃ σ' O' h' tk', s' = { s with heap := h', toks := tk' } ∧ FS Γ env O' σ' h' ∧ Kp O s.heap O' h' ∧ J k σ') ?_ n ⟨σ, O, s.heap, s.toks, rfl, X, Kp.refl, h0⟩
  rintro k s' ⟨σ', O', h', tk', rfl, X', kp, hJ⟩
  obtain ⟨b, ht, hT, hF⟩ := step k σ' hJ
  refine wpAny_noRaise (ht.run O' { s with heap := h', toks := tk' } X'.ok _ fun h₁ tk₁ g₁ => ?_)
  cases b with
  | false =>
    rw [if_neg Bool.false_ne_true]
    exact wpAny_execs_nil ⟨.next σ', h₁, tk₁, O', hF rfl, rfl, kp.trans (Kp.grow g₁), X'.grow g₁⟩
  | true =>
    rw [if_pos rfl]
    refine wpAny_mono ((hT rfl).run O' { s with heap := h₁, toks := tk₁ } (X'.grow g₁)) (fun fl s₃ z => ?_) fun _ _ e => e.elim
    obtain ⟨o, h₃, tk₃, O₃, hR, rfl, k₃, q⟩ := z
    have kall : Kp O s.heap O₃ h₃ := kp.trans ((Kp.grow g₁).trans k₃)
    have again : ∀ σ₃, FS Γ env O₃ σ₃ h₃ → (∃ m, m < k ∧ J m σ₃) → ∃ m, m < k ∧ ∃ σ' O' h' tk', ({ s with heap := h₃, toks := tk₃ } : Shared) = { s with heap := h', toks := tk' } ∧ FS Γ env O' σ' h' ∧ Kp O s.heap O' h' ∧ J m σ' := fun σ₃ q hR => let ⟨m, hm, hJ⟩ := hR; ⟨m, hm, σ₃, O₃, h₃, tk₃, rfl, q, kall, hJ⟩
    rcases q.out with ⟨σ₃, rfl, rfl, q⟩ | ⟨σ₃, rfl, rfl, q⟩ | ⟨σ₃, rfl, rfl, q⟩ | ⟨d, v, rfl, rfl, q⟩
    · exact again σ₃ q hR
    · exact ⟨.next σ₃, h₃, tk₃, O₃, hR, rfl, kall, q⟩
    · exact again σ₃ q hR
    · exact ⟨.ret d, h₃, tk₃, O₃, hR, rfl, kall, q⟩
end

/-! part L7 -/
/-! the entry of a def -/
noncomputable def parS : List Str → List D → Store
  | p :: ps, d :: ds => fun x => match parS ps ds x with
    | some c => some c
    | none => if x = p then some (.imm d) else none
  | _, _ => fun _ => none
noncomputable def lastV : List (Str × Value) → Str → Option Value
  | [], _ => none
  | (n, v) :: r, x => match lastV r x with
    | some c => some c
    | none => if x = n then some v else none

theorem bindL_local {kindOf : Str → Option NameKind} {x : Str} (hk : kindOf x = some .local) : ∀ (binds : List (Str × Value)) (m : Str → Option Value) , bindL kindOf binds m x = (match lastV binds x with | some c => some c | none => m x)
  | [], m => rfl
  | (n, v) :: r, m => by
    unfold bindL lastV
    by_cases hn : kindOf n = some .local
    · rw [if_pos hn, bindL_local hk r]
      cases lastV r x with
      | some c => rfl
      | none => by_cases e : x = n <;> simp [e]
    · rw [if_neg hn, bindL_local hk r]
      have : x ≠ n := fun e => hn (e ▸ hk)
      cases lastV r x with
      | some c => rfl
      | none => simp [this]
theorem bindC_cell {kindOf : Str → Option NameKind} {x : Str} (hk : kindOf x = some .cell) : ∀ (binds : List (Str × Value)) (m : Str → Option Value) , (∀ y ∈ binds, kindOf y.1 = some .local ∨ kindOf y.1 = some .cell) → bindC kindOf binds m x = (match lastV binds x with | some c => some c | none => m x)
  | [], m, _ => rfl
  | (n, v) :: r, m, hall => by
    unfold bindC lastV
    have hr : ∀ y ∈ r, kindOf y.1 = some .local ∨ kindOf y.1 = some .cell := fun y hy => hall y (List.mem_cons_of_mem _ hy)
    by_cases hn : kindOf n = some .local
    · rw [if_pos hn, bindC_cell hk r _ hr]
      have : x ≠ n := fun e => by rw [e, hn] at hk; cases hk
      cases lastV r x with
      | some c => rfl
      | none => simp [this]
    · rw [if_neg hn, bindC_cell hk r _ hr]
      cases lastV r x with
      | some c => rfl
      | none => by_cases e : x = n <;> simp [e]

theorem par_rep {O : Addr → Prop} {h : Heap} : ∀ {ps : List Str} {vs : List Value} {ds : List D}, RepL O h vs ds → ∀ x c, parS ps ds x = some c → ∃ v d, lastV (ps.zip vs) x = some v ∧ c = .imm d ∧ Rep O h v d
  | [], _, _, _, x, c, e => by cases e
  | p :: ps, _, _, .nil, x, c, e => by cases e
  | p :: ps, _, _, .cons v d vs ds a b, x, c, e => by
    unfold parS at e
    rw [List.zip_cons_cons]
    unfold lastV
    cases q : parS ps ds x with
    | some c' =>
      rw [q] at e
      cases e
      obtain ⟨v', d', e1, e2, e3⟩ := par_rep b x c q
      exact ⟨v', d', by rw [e1], e2, e3⟩
    | none =>
      rw [q] at e
      by_cases hx : x = p
      · rw [hx] at q
        simp [hx] at e
        have : lastV (ps.zip vs) x = none := by
          cases z : lastV (ps.zip vs) x with
          | none => rfl
          | some w =>
            exfalso
            rw [hx] at z
            exact par_none b q z
        exact ⟨v, d, by rw [this]; simp [hx], e.symm, a⟩
      · simp [hx] at e
where
  par_none {O : Addr → Prop} {h : Heap} : ∀ {ps : List Str} {vs : List Value} {ds : List D} {x : Str} {w : Value}, RepL O h vs ds → parS ps ds x = none → lastV (ps.zip vs) x = some w → False
    | [], _, _, _, _, _, _, z => by cases z
    | p :: ps, _, _, _, _, .nil, _, z => by cases z
    | p :: ps, _, _, x, w, .cons v d vs ds a b, q, z => by
      unfold parS at q
      rw [List.zip_cons_cons] at z
      unfold lastV at z
      cases q2 : parS ps ds x with
      | some c => rw [q2] at q; cases q
      | none =>
        rw [q2] at q
        by_cases hx : x = p
        · simp [hx] at q
        · cases z2 : lastV (ps.zip vs) x with
          | some w' => exact par_none b q2 z2
          | none => rw [z2] at z; simp [hx] at z

theorem pair_inj : ∀ {cs : List (Str × Addr)}, cs.Pairwise (fun x y => x.2 ≠ y.2) → ∀ {y y' : Str} {c : Addr}, cs.lookup y = some c → cs.lookup y' = some c → y = y'
  | [], _, y, y', c, e, _ => by cases e
  | (n, a) :: r, hp, y, y', c, e, e' => by
    rw [List.pairwise_cons] at hp
    rw [List.lookup_cons] at e e'
    cases h1 : y == n with
    | true =>
      cases h2 : y' == n with
      | true => rw [eq_of_beq h1, eq_of_beq h2]
      | false =>
        rw [h1] at e; rw [h2] at e'
        cases e
        have := mem_of_lookup e'
        exact absurd rfl (hp.1 (y', _) this)
    | false =>
      cases h2 : y' == n with
      | true =>
        rw [h1] at e; rw [h2] at e'
        cases e'
        have := mem_of_lookup e
        exact absurd rfl (hp.1 (y, _) this)
      | false =>
        rw [h1] at e; rw [h2] at e'
        exact pair_inj hp.2 e e'

noncomputable def Al (P : Str → Prop) : List Str → Prop
  | [] => True
  | x :: r => P x ∧ Al P r
theorem Al.mem {P : Str → Prop} {l : List Str} (h : Al P l) : ∀ x ∈ l, P x := by
  induction l with
  | nil => intro x hx; cases hx
  | cons a r ih =>
    intro x hx
    rcases List.mem_cons.mp hx with q | q
    · rw [q]; exact h.1
    · exact ih h.2 x q
/-- a parameter's place in its scope -/
noncomputable def ParOk (scope : Scope) (x : Str) : Prop :=
  ((scope.names.lookup x = some .local ∧ ∀ n, (cellsFrom n scope.names []).lookup x = none) ∨ (scope.names.lookup x = some .cell ∧ ∀ n, ((cellsFrom n scope.names []).lookup x).isSome = true)) ∧ (x == ("__debug__" : Str)) = false
theorem vs1 {P : List Value → Prop} {n : Nat} (e : n = 1) (h : ∀ a, P [a]) (vs : List Value) (hv : vs.length = n) : P vs := by
  obtain ⟨a, rfl⟩ := List.length_eq_one_iff.mp (hv.trans e)
  exact h a
theorem vs2 {P : List Value → Prop} {n : Nat} (e : n = 2) (h : ∀ a b, P [a, b]) (vs : List Value) (hv : vs.length = n) : P vs := by
  subst e
  cases vs with
  | nil => exact nomatch hv
  | cons a r => exact vs1 (P := fun r => P (a :: r)) rfl (h a) r (Nat.succ.inj hv)
theorem vs3 {P : List Value → Prop} {n : Nat} (e : n = 3) (h : ∀ a b c, P [a, b, c]) (vs : List Value) (hv : vs.length = n) : P vs := by
  subst e
  cases vs with
  | nil => exact nomatch hv
  | cons a r => exact vs2 (P := fun r => P (a :: r)) rfl (h a) r (Nat.succ.inj hv)
section
variable {Γ : G} {k : Nat}
theorem Fn.enter {name qual : Str} {params : Arguments} {body : List Stmt} {scope : Scope} {dV kV doc pm cdv ct oc : Value} {an od : Option Addr} {osl : Array (Option Value)} {f : Addr} {ps : List Str} {ds : List D} {d : D}
    (ho : ∀ P, (hd.heap_39 P).lookup f = some ⟨oc, od, .func (fnOf name qual params body scope dV kV doc pm an cdv ct), osl⟩) (hcd : ∀ P, codeIn (hd.heap_39 P) cdv qual = true)
    (hbind : ∀ vs : List Value, vs.length = ds.length → bindArgs (fnOf name qual params body scope dV kV doc pm an cdv ct) ⟨vs, []⟩ = pure (ps.zip vs)) (hlen : ps.length = ds.length)
    (hpar : Al (ParOk scope) ps)
    (hco : scope.isCoroutine = false) (hgen : scope.isGenerator = false) (hk : scope.kind = .function)
    (S : Site Γ (k + 1))
    (h : ∀ Γ' : G, Site Γ' k → (∀ a, Γ'.O₀ a → ∃ o, Γ'.base.get? a = some o) → Ex Γ' (envOfC qual scope Γ'.L f cdv) (parS ps ds) body (fun o => o = .ret d)) : CallR Γ (.ref f) ds d := by
  have hkind : ∀ n, ∀ x ∈ ps, scope.names.lookup x = some .local ∨ (scope.names.lookup x = some .cell ∧ ((cellsFrom n scope.names []).lookup x).isSome = true) := fun n x hx => (hpar.mem x hx).1.imp (·.1) fun q => ⟨q.1, q.2 n⟩
  have hnc : ∀ n, ∀ x ∈ ps, scope.names.lookup x = some .local → (cellsFrom n scope.names []).lookup x = none := fun n x hx e => (hpar.mem x hx).1.elim (fun q => q.2 n) fun q => nomatch q.1.symm.trans e
  have hdbg : ∀ x ∈ ps, (x == ("__debug__" : Str)) = false := fun x hx => (hpar.mem x hx).2
  constructor; rintro O s vs ⟨m, F⟩ al hr Q hQ
  obtain ⟨env, outer, A₀, base₀, hA, hf, hke, B⟩ := S.frames
  obtain ⟨loose, mean, mg, mb, T⟩ := S.T
  have hv : vs.length = ds.length := hr.length
  refine wpAny_call ?_
  have B₁ : Below (A₀.deeper env) base₀ (env :: outer) s.heap := pushX B F hf hke
  have hroom : Γ.A.depth < recursionLimit := by have := S.depth; omega
  refine codeAny_call_function (fd := fnX name qual params body scope [] dV kV doc pm an cdv ct) (body := body) hroom ((S.X.keeps F.keep) _ _ (ho _)) rfl hco hgen rfl (codeRec_of (S.X.keeps F.keep) (hcd _)) ?_
  rw [show bindArgs (fnX name qual params body scope [] dV kV doc pm an cdv ct) ⟨vs, []⟩ = pure (ps.zip vs) from hbind vs hv]
  refine wpAny_pure ?_
  have hmem : ∀ y ∈ ps.zip vs, y.1 ∈ ps := fun y hy => (List.of_mem_zip hy).1
  refine wpAny_newFunctionEnv_cells hk (fun y hy => hkind _ _ (hmem y hy)) fun env' he s' x => ?_
  subst he
  refine ⟨(T.nolimit.keeps F.keep).keeps x.toInCall.keep, codeAny_func ?_⟩
  obtain ⟨h₁, tk, rfl, hk₁⟩ := x.done
  let Γ' : G := { prog := Γ.prog, w := Γ.w, A := Γ.A.deeper (envOfC qual scope s.heap.objs.size f cdv), base := s.heap, L := s.heap.objs.size, O₀ := O }
  have S' : Site Γ' k := {
    handled := S.handled
    frames := ⟨envOfC qual scope s.heap.objs.size f cdv, env :: outer, A₀.deeper env, base₀, Around.frames_deeper hA, rfl, hk, B₁⟩
    X := S.X.keeps F.keep
    T := ⟨loose, mean, mg, mb, T.keeps F.keep⟩
    depth := by show Γ.A.depth + 1 + 10 * k < recursionLimit; have := S.depth; omega
    units := by show Γ.A.units + 3 + 100 * k < cLine; have := S.units; omega }
  have hcell : ∀ n c, (cellsFrom (s.heap.objs.size + 1) scope.names []).lookup n = some c → h₁.IsCell c (bindC (envOfC qual scope s.heap.objs.size f cdv).kindOf (ps.zip vs) (fun _ => none) n) := fun n c e => x.cell n c e
  have habove : ∀ n c, (cellsFrom (s.heap.objs.size + 1) scope.names []).lookup n = some c → s.heap.objs.size < c := fun n c e => x.above n c (mem_of_lookup e)
  have hLk : h₁.Ns s.heap.objs.size (bindL (envOfC qual scope s.heap.objs.size f cdv).kindOf (ps.zip vs) fun _ => none) := x.toInCall.ns
  have X' : FS Γ' (envOfC qual scope s.heap.objs.size f cdv) (fun a => O a ∨ a = s.heap.objs.size ∨ ∃ n, (cellsFrom (s.heap.objs.size + 1) scope.names []).lookup n = some a) (parS ps ds) h₁ := by
    refine ⟨rfl, hk, ?_, fun a ha => .inl ha, _, bindC (envOfC qual scope s.heap.objs.size f cdv).kindOf (ps.zip vs) (fun _ => none), ⟨hLk, hk₁, Nat.le_refl _⟩, .inr (.inl rfl), fun y c e => ?_, fun y y' c e e' => pair_inj x.apart e e', fun z c e => ?_, fun z c e => ?_, fun z z' d1 d2 a e => ?_⟩
    · rintro a (ha | rfl | ⟨n, hn⟩)
      · obtain ⟨o, e⟩ := al a ha
        exact ⟨o, hk₁ _ _ e⟩
      · obtain ⟨o, _, _, e, _⟩ := hLk
        exact ⟨o, e⟩
      · obtain ⟨o, e, _⟩ := hcell n a hn
        exact ⟨o, e⟩
    · refine ⟨.inr (.inr ⟨y, e⟩), Nat.ne_of_gt (habove y c e), ?_, hcell y c e⟩
      exact Heap.get?_none_of_le (Nat.le_of_lt (habove y c e))
    · obtain ⟨v, d, e1, e2, e3⟩ := par_rep hr z c e
      have hz : z ∈ ps := par_mem e
      refine ⟨?_, hdbg z hz⟩
      rcases hkind (s.heap.objs.size + 1) z hz with q | ⟨q, w⟩
      · exact .inl ⟨q, hnc _ z hz q⟩
      · exact .inr ⟨q, Option.isSome_iff_exists.mp w⟩
    · obtain ⟨v, d', e1, rfl, e3⟩ := par_rep hr z c e
      have hz : z ∈ ps := par_mem e
      refine ⟨v, ?_, e3.move fun a o q n => ⟨?_, hk₁ a o q⟩⟩
      · unfold valOf
        rcases hkind (s.heap.objs.size + 1) z hz with q | ⟨q, w⟩
        · have := hnc (s.heap.objs.size + 1) z hz q
          show (match (cellsFrom (s.heap.objs.size + 1) scope.names []).lookup z with | some _ => _ | none => _) = _
          rw [this]
          show bindL _ _ _ z = _
          rw [bindL_local (show (envOfC qual scope s.heap.objs.size f cdv).kindOf z = some .local from q), e1]
        · obtain ⟨c, hc⟩ := Option.isSome_iff_exists.mp w
          show (match (cellsFrom (s.heap.objs.size + 1) scope.names []).lookup z with | some _ => _ | none => _) = _
          rw [hc]
          show bindC _ _ _ z = _
          rw [bindC_cell (show (envOfC qual scope s.heap.objs.size f cdv).kindOf z = some .cell from q) _ _ (fun y hy => (hkind (s.heap.objs.size + 1) y.1 (hmem y hy)).imp id fun q => q.1), e1]
      · rintro (z | rfl | ⟨n', hn⟩)
        · exact n z
        · exact absurd (Heap.lt_size q) (Nat.lt_irrefl _)
        · exact absurd (Heap.lt_size q) (Nat.not_lt.mpr (Nat.le_of_lt (habove _ _ hn)))
    · obtain ⟨v, d', e1, e2, e3⟩ := par_rep hr z _ e
      cases e2
  refine wpAny_mono ((h Γ' S' (fun a ha => al a ha)).run _ { s with heap := h₁, toks := tk } X') (fun fl s' z => ?_) fun _ _ e => e.elim
  obtain ⟨o, h₂, tk₂, O₂, rfl, rfl, kp, q⟩ := z
  obtain ⟨v, rfl, ⟨m', F'⟩, sub, r⟩ := q.inv
  exact hQ v h₂ tk₂ (fun a o e => F'.keep a o e) (r.move fun a o e n => ⟨fun z => n (sub a z), e⟩)
where
  par_mem : ∀ {ps : List Str} {ds : List D} {x : Str} {c : SV}, parS ps ds x = some c → x ∈ ps
    | [], _, _, _, e => by cases e
    | p :: ps, [], _, _, e => by cases e
    | p :: ps, d :: ds, x, c, e => by
      unfold parS at e
      cases q : parS ps ds x with
      | some c' => exact List.mem_cons_of_mem _ (par_mem q)
      | none =>
        rw [q] at e
        by_cases hx : x = p
        · rw [hx]; exact List.mem_cons_self
        · simp [hx] at e
end

/-! part L8 -/
section
variable {Γ : G} {env : Env} {ρ : Store} {k : Nat}

/-! built-ins on ints and texts -/
theorem CallR.abs {a : Int} : CallR Γ (.builtin "abs") [.int a] (.int (if a < 0 then -a else a)) := by
  constructor; intro O s vs _ _ r Q hQ
  obtain ⟨_, rfl, a⟩ := r.one; obtain ⟨_, rfl⟩ := a.inv; exact call_abs_int fun u tk => hQ _ s.heap tk (StaysIn.refl _) (.int _ _)
theorem CallR.max2 (S : Site Γ k) {a b : Int} : CallR Γ (.builtin "max") [.int a, .int b] (.int (if b > a then b else a)) := by
  constructor; intro O s vs _ _ r Q hQ
  obtain ⟨_, _, rfl, a, b⟩ := r.two; obtain ⟨_, rfl⟩ := a.inv; obtain ⟨_, rfl⟩ := b.inv; exact max_two_ints S.handled fun h' tk g => hQ _ h' tk g (by split <;> exact .int _ _)
theorem CallR.min2 (S : Site Γ k) {a b : Int} : CallR Γ (.builtin "min") [.int a, .int b] (.int (if b < a then b else a)) := by
  constructor; intro O s vs _ _ r Q hQ
  obtain ⟨_, _, rfl, a, b⟩ := r.two; obtain ⟨_, rfl⟩ := a.inv; obtain ⟨_, rfl⟩ := b.inv; exact min_two_ints S.handled fun h' tk g => hQ _ h' tk g (by split <;> exact .int _ _)
theorem CallR.chr {a : Int} (h : (decide (a < 0) || decide (a > 1114111)) = false) : CallR Γ (.builtin "chr") [.int a] (.str ⟨#[a.toNat]⟩) := by
  constructor; intro O s vs _ _ r Q hQ
  obtain ⟨_, rfl, a⟩ := r.one; obtain ⟨_, rfl⟩ := a.inv; exact P.chr_of_int h (hQ _ s.heap _ (StaysIn.refl _) (.str _ _))
theorem CallR.ord {c : Nat} : CallR Γ (.builtin "ord") [.str ⟨#[c]⟩] (.int c) := by
  constructor; intro O s vs _ _ r Q hQ
  obtain ⟨_, rfl, a⟩ := r.one; obtain ⟨_, rfl⟩ := a.inv; exact P.ord_of_char (hQ _ s.heap _ (StaysIn.refl _) (.int _ _))
theorem CallR.len {ds : List D} (h : (ds.length : Int) < 2 ^ 63) : CallR Γ (.builtin "len") [.lst ds] (.int ds.length) := by
  constructor; intro O s vs _ _ r Q hQ
  obtain ⟨_, rfl, ra⟩ := r.one; obtain ⟨a, ws, rfl, ha, hl, hr⟩ := ra.inv
  have e : ws.toArray.size = ds.length := by rw [List.size_toArray, hr.length]
  refine call_len_list hl (by rw [e]; exact h) ?_
  rw [e]
  exact hQ _ s.heap _ (StaysIn.refl _) (.int _ _)
theorem CallR.round (S : Site Γ k) {x : UInt64} (hf : Float64.isFinite x = true) (hn : Float64.isNaN x = false) (hi : Float64.isInf x = false) : CallR Γ (.builtin "round") [.flt x] (.int (PySem.Flt.toInt Float64.nearestOf x)) := by
  constructor; intro O s vs _ _ r Q hQ
  obtain ⟨_, rfl, a⟩ := r.one; obtain ⟨_, rfl⟩ := a.inv; exact PySem.Flt.call_round_float S.handled (fun q => by rw [hn] at q; cases q) (fun q => by rw [hi] at q; cases q) fun _ => hQ _ s.heap _ (StaysIn.refl _) (.int _ _)
theorem CallR.intF {x : UInt64} {sg : Bool} {m : Nat} {e : Int} (hd : Float64.decode x = .fin sg m e) : CallR Γ (.type "int") [.flt x] (.int (Float64.truncOf sg m e)) := by
  constructor; intro O s vs _ _ r Q hQ
  obtain ⟨_, rfl, a⟩ := r.one; obtain ⟨_, rfl⟩ := a.inv; exact call_int_float hd (hQ _ s.heap _ (StaysIn.refl _) (.int _ _))

/-! lists of ints -/
noncomputable abbrev intL (ns : List Int) : List D := ns.map .int
theorem ints_items {O : Addr → Prop} {h : Heap} : ∀ {ns : List Int} {vs : List Value}, RepL O h vs (intL ns) → ∃ xs : List (Int × Tok), vs = xs.map (fun p => Value.int p.1 p.2) ∧ xs.map (·.1) = ns
  | [], vs, r => by obtain rfl := r.inv; exact ⟨[], rfl, rfl⟩
  | n :: ns, vs, r => by
    rw [show intL (n :: ns) = .int n :: intL ns from rfl] at r
    obtain ⟨_, vs, rfl, a, b⟩ := r.inv
    obtain ⟨t, rfl⟩ := a.inv
    obtain ⟨xs, e1, e2⟩ := ints_items b
    exact ⟨(n, t) :: xs, by rw [e1]; rfl, by rw [← e2]; rfl⟩
theorem intItems_of (xs : List (Int × Tok)) : (xs.map (fun p => Value.int p.1 p.2)).toArray = intItems xs.toArray := by simp [intItems]
theorem numAt_of (xs : List (Int × Tok)) (i : Nat) : numAt xs.toArray i = (xs.map (·.1)).getD i 0 := by
  simp only [numAt, List.getD_eq_getElem?_getD, List.getElem?_map]
  simp
theorem preSum_of (xs : List (Int × Tok)) : ∀ i, i ≤ xs.length → preSum (numAt xs.toArray) i = ((xs.map (·.1)).take i).sum
  | 0, _ => by simp [preSum]
  | i + 1, h => by
    have hlt : i < (xs.map (·.1)).length := by simp; omega
    rw [preSum, preSum_of xs i (by omega), numAt_of, List.take_add_one, List.getElem?_eq_getElem hlt, List.getD_eq_getElem?_getD, List.getElem?_eq_getElem hlt]
    simp [List.sum_append]
theorem CallR.sum (S : Site Γ k) {ns : List Int} (hfit : ∀ j, j < ns.length → InLong (ns.getD j 0) ∧ InLong (ns.take (j + 1)).sum) : CallR Γ (.builtin "sum") [.lst (intL ns)] (.int ns.sum) := by
  constructor; intro O s vs _ _ r Q hQ
  obtain ⟨_, rfl, ra⟩ := r.one; obtain ⟨a, ws, rfl, ha, hl, hr⟩ := ra.inv
  obtain ⟨xs, rfl, rfl⟩ := ints_items hr
  rw [intItems_of] at hl
  refine sum_intList S.handled hl (fun j hj => ?_) fun h' tk t' g => ?_
  · have hj' : j < xs.length := by simpa using hj
    rw [numAt_of, preSum_of xs (j + 1) hj']
    exact hfit j (by simpa using hj')
  · have e : preSum (numAt xs.toArray) xs.toArray.size = (xs.map (·.1)).sum := by
      rw [show xs.toArray.size = xs.length by simp, preSum_of xs _ (Nat.le_refl _), List.take_of_length_le (by simp)]
    rw [e]
    exact hQ _ h' tk g (.int _ _)
theorem argBest_le (bt : Nat → Nat → Bool) : ∀ k, argBest bt k ≤ k
  | 0 => Nat.le_refl _
  | k + 1 => by
    unfold argBest
    split
    · exact Nat.le_refl _
    · exact Nat.le_succ_of_le (argBest_le bt k)
noncomputable def foldMax : List Int → Int
  | [] => 0
  | a :: r => r.foldl (fun m x => if m < x then x else m) a
noncomputable def foldMin : List Int → Int
  | [] => 0
  | a :: r => r.foldl (fun m x => if x < m then x else m) a
theorem argBest_max (ns : List Int) : ∀ k, k < ns.length → ns.getD (argBest (fun i j => decide (ns.getD i 0 > ns.getD j 0)) k) 0 = foldMax (ns.take (k + 1))
  | 0, h => by
    cases ns with
    | nil => cases h
    | cons a r => rfl
  | k + 1, h => by
    have ih := argBest_max ns k (by omega)
    cases ns with
    | nil => cases h
    | cons a r =>
      unfold argBest
      have hlt : k < r.length := by simpa using h
      have e : foldMax ((a :: r).take (k + 1 + 1)) = (if foldMax ((a :: r).take (k + 1)) < r.getD k 0 then r.getD k 0 else foldMax ((a :: r).take (k + 1))) := by
        simp only [List.take_succ_cons, foldMax]
        rw [List.take_add_one, List.getElem?_eq_getElem hlt, List.foldl_append, List.getD_eq_getElem?_getD, List.getElem?_eq_getElem hlt]
        rfl
      rw [e, ← ih]
      have e2 : (a :: r).getD (k + 1) 0 = r.getD k 0 := by simp
      rw [e2]
      by_cases hc : r.getD k 0 > (a :: r).getD (argBest (fun i j => decide ((a :: r).getD i 0 > (a :: r).getD j 0)) k) 0
      · rw [if_pos (by simpa using hc), if_pos hc]; simp
      · rw [if_neg (by simpa using hc), if_neg hc]
theorem argBest_min (ns : List Int) : ∀ k, k < ns.length → ns.getD (argBest (fun i j => decide (ns.getD i 0 < ns.getD j 0)) k) 0 = foldMin (ns.take (k + 1))
  | 0, h => by
    cases ns with
    | nil => cases h
    | cons a r => rfl
  | k + 1, h => by
    have ih := argBest_min ns k (by omega)
    cases ns with
    | nil => cases h
    | cons a r =>
      unfold argBest
      have hlt : k < r.length := by simpa using h
      have e : foldMin ((a :: r).take (k + 1 + 1)) = (if r.getD k 0 < foldMin ((a :: r).take (k + 1)) then r.getD k 0 else foldMin ((a :: r).take (k + 1))) := by
        simp only [List.take_succ_cons, foldMin]
        rw [List.take_add_one, List.getElem?_eq_getElem hlt, List.foldl_append, List.getD_eq_getElem?_getD, List.getElem?_eq_getElem hlt]
        rfl
      rw [e, ← ih]
      have e2 : (a :: r).getD (k + 1) 0 = r.getD k 0 := by simp
      rw [e2]
      by_cases hc : r.getD k 0 < (a :: r).getD (argBest (fun i j => decide ((a :: r).getD i 0 < (a :: r).getD j 0)) k) 0
      · rw [if_pos (by simpa using hc), if_pos hc]; simp
      · rw [if_neg (by simpa using hc), if_neg hc]
theorem pick_int {O : Addr → Prop} {h' : Heap} {xs : List (Int × Tok)} {v : Value} {i : Nat} (e : (intItems xs.toArray)[i]? = some v) : Rep O h' v (.int ((xs.map (·.1)).getD i 0)) := by
  rw [← intItems_of] at e
  simp only [List.getElem?_toArray, List.getElem?_map, Option.map_eq_some_iff] at e
  obtain ⟨p, hp, rfl⟩ := e
  rw [List.getD_eq_getElem?_getD, List.getElem?_map, hp]
  exact .int _ _
theorem CallR.max (S : Site Γ k) {ns : List Int} (hne : 0 < ns.length) : CallR Γ (.builtin "max") [.lst (intL ns)] (.int (foldMax ns)) := by
  constructor; intro O s vs _ _ r Q hQ
  obtain ⟨_, rfl, ra⟩ := r.one; obtain ⟨a, ws, rfl, ha, hl, hr⟩ := ra.inv
  obtain ⟨xs, rfl, rfl⟩ := ints_items hr
  rw [intItems_of] at hl
  have hx : 0 < xs.length := by simpa using hne
  refine max_intList S.handled hl (by simpa using hx) fun v h' tk e g => hQ v h' tk g ?_
  have q := pick_int (O := O) (h' := h') e
  have fe : (fun i j => decide (numAt xs.toArray i > numAt xs.toArray j)) = (fun i j => decide ((xs.map (·.1)).getD i 0 > (xs.map (·.1)).getD j 0)) := by
    funext i j; rw [numAt_of, numAt_of]
  rw [fe, argBest_max (xs.map (·.1)) _ (by simp; omega)] at q
  have : (xs.toArray.size - 1) + 1 = (xs.map (·.1)).length := by simp; omega
  rw [this, List.take_of_length_le (Nat.le_refl _)] at q
  exact q
theorem CallR.min (S : Site Γ k) {ns : List Int} (hne : 0 < ns.length) : CallR Γ (.builtin "min") [.lst (intL ns)] (.int (foldMin ns)) := by
  constructor; intro O s vs _ _ r Q hQ
  obtain ⟨_, rfl, ra⟩ := r.one; obtain ⟨a, ws, rfl, ha, hl, hr⟩ := ra.inv
  obtain ⟨xs, rfl, rfl⟩ := ints_items hr
  rw [intItems_of] at hl
  have hx : 0 < xs.length := by simpa using hne
  refine min_intList S.handled hl (by simpa using hx) fun v h' tk e g => hQ v h' tk g ?_
  have q := pick_int (O := O) (h' := h') e
  have fe : (fun i j => decide (numAt xs.toArray i < numAt xs.toArray j)) = (fun i j => decide ((xs.map (·.1)).getD i 0 < (xs.map (·.1)).getD j 0)) := by
    funext i j; rw [numAt_of, numAt_of]
  rw [fe, argBest_min (xs.map (·.1)) _ (by simp; omega)] at q
  have : (xs.toArray.size - 1) + 1 = (xs.map (·.1)).length := by simp; omega
  rw [this, List.take_of_length_le (Nat.le_refl _)] at q
  exact q

/-! what a for goes over -/
theorem letGo_plain {M : Model} {A : Around} {E : Value → Shared → Prop} {s : Shared} {t : Expr} {I : Addr} {u : Value} {Q : Unit → Shared → Prop}
    (hI : ∃ o c, s.heap.get? I = some o ∧ o.cls = .type c ∧ (["enumerate", "zip", "dict_itemiterator", "dict_reverseitemiterator", "odict_iterator", "itertools.zip_longest", "itertools.pairwise"].contains c) = false) (h : Q () s) : wpAny M A (letOwnedTupleGo t (.ref I) u) Q E s := by
  obtain ⟨o, c, ho, hc, hn⟩ := hI
  have key : ∀ a : Addr, wpAny M A (load I >>= fun o => match o.cls, o.data with
      | .type n, .fields vs =>
        if (["enumerate", "zip", "dict_itemiterator", "dict_reverseitemiterator", "odict_iterator", "itertools.zip_longest", "itertools.pairwise"].contains n && vs[0]? == some (rawInt a)) = true then do
          rule "for.unpacks-the-owned-tuple"
          updateField I 0 .none
        else pure ()
      | _, _ => pure ()) Q E s := fun a => by
    refine wpAny_bind (wpAny_load ho ?_)
    rw [hc]
    cases o.data <;> first | exact wpAny_pure h | (dsimp only; rw [hn, Bool.false_and, if_neg Bool.false_ne_true]; exact wpAny_pure h)
  unfold letOwnedTupleGo
  cases t <;> first
    | exact wpAny_pure h
    | (cases u <;> first | exact wpAny_pure h | exact key _)
theorem Walks.stp {A : Around} {prog : Program} {w : World} {I : Addr} {wr fp : List Addr} {n : Nat} {P : Nat → Value → Prop} {St : Nat → Heap → Prop} (W : Walks prog w A I fp wr n P St) {Γ : G} (hp : Γ.prog = prog) (hw : Γ.w = w) (hA : Γ.A = A) {vs : List Value} {mk : Nat → D → D}
    (hn : vs.length = n) (live : ∀ i h, St i h → ∀ b ∈ fp, ∃ o, h.get? b = some o) (cls : ∀ i h, St i h → ∀ b ∈ wr, ∀ o, h.get? b = some o → ¬ SeqObj o)
    (hI : ∀ i h, St i h → ∃ o c, h.get? I = some o ∧ o.cls = .type c ∧ (["enumerate", "zip", "dict_itemiterator", "dict_reverseitemiterator", "odict_iterator", "itertools.zip_longest", "itertools.pairwise"].contains c) = false)
    (hP : ∀ i v u, vs[i]? = some v → P i u → ∀ (O : Addr → Prop) h d, Rep O h v d → Rep O h u (mk i d)) {t : Expr} : Stp Γ t I wr fp vs mk St := by
  subst hp hw hA hn
  have lt : ∀ {i v}, vs[i]? = some v → i < vs.length := fun {i v} hv => by
    rcases Nat.lt_or_ge i vs.length with h | h
    · exact h
    · rw [List.getElem?_eq_none h] at hv; cases hv
  refine ⟨W.sub, live, cls, W.frame, fun i v s Q K hv st hK hQ => ?_, fun _ i v s Q hv st hQ => ?_, fun s Q st hQ => ?_, fun i s Q st hQ => W.self i s Q No st hQ⟩
  · exact W.item i s _ No (lt hv) st fun u h' tk' hPu st' hk => hK u _ (letGo_plain (hI _ _ st') (hQ u h' tk' st' hk fun O d _ r => hP i v u hv hPu O h' d r))
  · exact W.item i s Q No (lt hv) st fun u h' tk' hPu st' hk => hQ u h' tk' st' hk fun O d _ r => hP i v u hv hPu O h' d r
  · exact W.done s Q No st hQ
theorem Src.list (S : Site Γ k) {t e : Expr} {ds : List D} (h : Ev Γ env ρ e (.lst ds)) : Src Γ env ρ t e (fun _ d => d) ds := by
  constructor; intro O s ok Q hQ
  refine h.run O s ok _ fun v h' tk' g r => ?_
  obtain ⟨a, vs, rfl, ha, hl, hr⟩ := r.inv
  refine wpAny_pyIter_list hl ?_
  have hlt : a ≠ h'.objs.size := by obtain ⟨o, e, _⟩ := hl; exact Nat.ne_of_lt (Heap.lt_size e)
  have W := Walks.list (prog := Γ.prog) (w := Γ.w) S.handled h'.objs.size a hlt vs.toArray
  have up : h'.StaysIn (h'.push { cls := .type "list_iterator", data := .fields #[.ref a, .int 0 0] }) := fun b o e => Heap.get?_push_of_some _ e
  refine hQ _ [h'.objs.size] [h'.objs.size, a] vs _ _ tk' (StaysIn.trans g up) (Walks.stp W rfl rfl rfl (by simp) (fun i h st b hb => ?_) (fun i h st b hb o e => ?_) (fun i h st => ?_) fun i v u hv hu O h d r => ?_) ⟨⟨_, Heap.get?_push_size _ rfl, rfl, rfl⟩, hl.push _⟩ (hr.grow up) (fun b hb => ?_) fun b hb => ?_
  · rcases List.mem_cons.mp hb with rfl | hb
    · obtain ⟨o, e, _⟩ := st.1; exact ⟨o, e⟩
    · rw [List.mem_singleton.mp hb]; obtain ⟨o, e, _⟩ := st.2; exact ⟨o, e⟩
  · rw [List.mem_singleton.mp hb] at e
    obtain ⟨o', e', hc, _⟩ := st.1
    rw [e] at e'; cases e'
    rintro (q | q) <;> · rw [hc] at q; exact absurd (Value.type.inj q) (by decide)
  · obtain ⟨o, e, hc, _⟩ := st.1
    exact ⟨o, _, e, hc, by decide⟩
  · have : vs[i]? = some u := by simpa using hu
    rw [hv] at this; cases this; exact r
  · rw [List.mem_singleton.mp hb]; exact fresh_of g
  · rcases List.mem_cons.mp hb with rfl | hb
    · exact (ok.alive.grow g).fresh (Heap.get?_none_of_le (Nat.le_refl _))
    · rw [List.mem_singleton.mp hb]; exact ha
theorem Src.tup (S : Site Γ k) {t e : Expr} {ds : List D} (h : Ev Γ env ρ e (.tup ds)) : Src Γ env ρ t e (fun _ d => d) ds := by
  constructor; intro O s ok Q hQ
  refine h.run O s ok _ fun v h' tk' g r => ?_
  obtain ⟨a, vs, rfl, ha, hl, hr⟩ := r.inv
  refine wpAny_pyIter_tuple hl ?_
  have hlt : a ≠ h'.objs.size := by obtain ⟨o, e, _⟩ := hl; exact Nat.ne_of_lt (Heap.lt_size e)
  have W := Walks.tuple (prog := Γ.prog) (w := Γ.w) S.handled h'.objs.size a hlt vs.toArray
  have up : h'.StaysIn (h'.push { cls := .type "tuple_iterator", data := .fields #[.ref a, .int 0 0] }) := fun b o e => Heap.get?_push_of_some _ e
  refine hQ _ [h'.objs.size] [h'.objs.size, a] vs _ _ tk' (StaysIn.trans g up) (Walks.stp W rfl rfl rfl (by simp) (fun i h st b hb => ?_) (fun i h st b hb o e => ?_) (fun i h st => ?_) fun i v u hv hu O h d r => ?_) ⟨⟨_, Heap.get?_push_size _ rfl, rfl, rfl⟩, IsTup.at_ hl fun o e => up a o e⟩ (hr.grow up) (fun b hb => ?_) fun b hb => ?_
  · rcases List.mem_cons.mp hb with rfl | hb
    · obtain ⟨o, e, _⟩ := st.1; exact ⟨o, e⟩
    · rw [List.mem_singleton.mp hb]; obtain ⟨o, e, _⟩ := st.2; exact ⟨o, e⟩
  · rw [List.mem_singleton.mp hb] at e
    obtain ⟨o', e', hc, _⟩ := st.1
    rw [e] at e'; cases e'
    rintro (q | q) <;> · rw [hc] at q; exact absurd (Value.type.inj q) (by decide)
  · obtain ⟨o, e, hc, _⟩ := st.1
    exact ⟨o, _, e, hc, by decide⟩
  · have : vs[i]? = some u := by simpa using hu
    rw [hv] at this; cases this; exact r
  · rw [List.mem_singleton.mp hb]; exact fresh_of g
  · rcases List.mem_cons.mp hb with rfl | hb
    · exact (ok.alive.grow g).fresh (Heap.get?_none_of_le (Nat.le_refl _))
    · rw [List.mem_singleton.mp hb]; exact ha
end

/-! part L9 -/
section
variable {Γ : G} {env : Env} {ρ : Store} {k : Nat}

/-! ranges -/
noncomputable abbrev rng (a : Int) (n : Nat) : List D := (List.range n).map fun i : Nat => .int (a + i)
theorem rng_rep {O : Addr → Prop} {h : Heap} {a : Int} : ∀ (l : List Nat), RepL O h (l.map fun i : Nat => Value.int (a + i) 0) (l.map fun i : Nat => D.int (a + i))
  | [] => .nil
  | _ :: l => .cons _ _ _ _ (.int _ _) (rng_rep l)
theorem small_range {a b : Int} {n : Nat} (ha : 0 ≤ a) (hb : b = a + n) (h : b < 2 ^ 40) : Builtin.Range.small a b 1 = true ∧ Builtin.Range.rangeSize a b 1 = n := by
  have e : Builtin.Range.rangeSize a b 1 = n := by
    unfold Builtin.Range.rangeSize
    rw [if_pos (by decide)]
    split <;> omega
  refine ⟨?_, e⟩
  have f : ∀ x : Int, 0 ≤ x → x < 2 ^ 40 → Builtin.Range.rangeFitsLong x = true := fun x h0 h1 => by
    unfold Builtin.Range.rangeFitsLong
    have h63 : (2 : Int) ^ 40 < 2 ^ 63 := by decide
    have h63' : -(2 : Int) ^ 63 ≤ 0 := by decide
    have q1 : -(2 : Int) ^ 63 ≤ x := by omega
    have q2 : x < (2 : Int) ^ 63 := by omega
    rw [decide_eq_true q1, decide_eq_true q2]; rfl
  have g : b + (1 - 1) = b := by omega
  unfold Builtin.Range.small
  rw [e, g, f a ha (by omega), f b (by omega) h, f 1 (by omega) (by decide), f n (by omega) (by omega)]
  simp
theorem keep_push {h : Heap} {o : Obj} : h.StaysIn (h.push o) := fun _ _ e => Heap.get?_push_of_some _ e
theorem notSeq {o : Obj} {c : String} (e : o.cls = .type c) (h1 : (c == "tuple") = false) (h2 : (c == "list") = false) : ¬ SeqObj o := by
  rintro (q | q) <;> rw [e] at q <;> cases q
  · exact absurd h1 (by decide)
  · exact absurd h2 (by decide)
theorem range_src (S : Site Γ k) {t : Expr} {O : Addr → Prop} {h₀ : Heap} {s : Shared} (g : h₀.StaysIn s.heap) (al : Alive O s.heap) {r : Addr} {a b : Int} {n : Nat} {x y z : Tok} (hr : IsRange s.heap r a b 1 x y z) (ha : 0 ≤ a) (hb : b = a + n) (h : b < 2 ^ 40) {Q : Value → Shared → Prop}
    (hQ : ∀ I wr fp vs St h' tk', h₀.StaysIn h' → Stp Γ t I wr fp vs (fun _ d => d) St → St 0 h' → RepL O h' vs (rng a n) → (∀ b ∈ wr, h₀.get? b = none) → (∀ b ∈ fp, ¬ O b) → Q (.ref I) { s with heap := h', toks := tk' }) :
    wpAny Γ.M Γ.A (pyIter (.ref r)) Q No s := by
  obtain ⟨e1, e2⟩ := small_range ha hb h
  refine wpAny_pyIter_range hr e1 ?_
  have W := Walks.range (prog := Γ.prog) (w := Γ.w) S.handled s.heap.objs.size a 1 n
  refine hQ s.heap.objs.size [s.heap.objs.size] [s.heap.objs.size] ((List.range n).map fun i : Nat => Value.int (a + i) 0) _ _ s.toks (StaysIn.trans g keep_push) (Walks.stp W rfl rfl rfl (by simp) (fun i h st b hb => ?_) (fun i h st b hb o e => ?_) (fun i h st => ?_) fun i v u hv hu O h d r => ?_) ?_ (rng_rep _) (fun b hb => ?_) fun b hb => ?_
  · rw [List.mem_singleton.mp hb]; exact ⟨_, st⟩
  · rw [List.mem_singleton.mp hb] at e
    rw [show h.get? s.heap.objs.size = some _ from st] at e
    cases e
    exact notSeq (c := "range_iterator") rfl (by decide) (by decide)
  · exact ⟨_, "range_iterator", st, rfl, by decide⟩
  · obtain ⟨t, rfl⟩ := hu
    rw [List.getElem?_map, Option.map_eq_some_iff] at hv
    obtain ⟨j, hj, rfl⟩ := hv
    have : j = i := by
      have := List.getElem?_range (n := n) (i := i)
      rcases Nat.lt_or_ge i n with q | q
      · rw [List.getElem?_range q] at hj; cases hj; rfl
      · rw [List.getElem?_eq_none (by simpa using q)] at hj; cases hj
    subst this
    obtain rfl := r.val
    rw [show a + (j : Int) * 1 = a + j by omega]
    exact .int _ _
  · show IsRangeIter _ _ (a + ((0 : Nat) : Int) * 1) ((n : Int) - ((0 : Nat) : Int)) 1
    rw [show a + ((0 : Nat) : Int) * 1 = a by omega, show (n : Int) - ((0 : Nat) : Int) = n by omega, ← e2]
    exact Heap.get?_push_size _ rfl
  · rw [List.mem_singleton.mp hb]; exact fresh_of g
  · rw [List.mem_singleton.mp hb]; exact al.fresh (Heap.get?_none_of_le (Nat.le_refl _))
theorem Src.range1 (S : Site Γ k) {t e : Expr} {x : Str} {p pos : Pos} {n : Nat} (hg : Glb Γ env x (.type "range")) (he : Ev Γ env ρ e (.int n)) (h : (n : Int) < 2 ^ 40) (hp : plainE e = true) :
    Src Γ env ρ t (.Call (.Name x p) [e] [] pos) (fun _ d => d) (rng 0 n) := by
  constructor; intro O s ok Q hQ
  refine Call_ (hg.run p _ _ s ok.fr ?_) rfl
  refine PyProof.Rows.callWith_type1 (spliced_more (he.run O s ok _ fun v h' tk' g r => spliced_none ?_) (star_plain hp)) (star_plain hp) rfl
  obtain ⟨_, rfl⟩ := r.inv
  refine call_range_1 ?_
  refine range_src S (t := t) (h₀ := s.heap) (s := { s with heap := _, toks := _ }) (n := n) (StaysIn.trans g keep_push) ((ok.alive.grow g).grow keep_push) (Heap.get?_push_size _ rfl) (Int.le_refl _) (by omega) h fun I wr fp vs St h' tk' a b c d e f => ?_
  exact hQ I wr fp vs St h' tk' a b c d e f
theorem Src.range2 (S : Site Γ k) {t e₁ e₂ : Expr} {x : Str} {p pos : Pos} {a b : Int} {n : Nat} (hg : Glb Γ env x (.type "range")) (h₁ : Ev Γ env ρ e₁ (.int a)) (h₂ : Ev Γ env ρ e₂ (.int b)) (ha : 0 ≤ a) (hb : b = a + n) (h : b < 2 ^ 40) (hp : plainEs [e₁, e₂] = true) :
    Src Γ env ρ t (.Call (.Name x p) [e₁, e₂] [] pos) (fun _ d => d) (rng a n) := by
  constructor; intro O s ok Q hQ
  have hp1 : plainE e₁ = true := (Bool.and_eq_true_iff.mp hp).1
  have hp2 : plainE e₂ = true := (Bool.and_eq_true_iff.mp (Bool.and_eq_true_iff.mp hp).2).1
  refine Call_ (hg.run p _ _ s ok.fr ?_) rfl
  refine PyProof.Rows.callWith_type1 (spliced_more (h₁.run O s ok _ fun v₁ k₁ t₁ g₁ r₁ => spliced_more (h₂.run O { s with heap := k₁, toks := t₁ } (ok.grow g₁) _ fun v₂ k₂ t₂ g₂ r₂ => spliced_none ?_) (star_plain hp2)) (star_plain hp1)) (star_plain hp1) (any_plain (Bool.and_eq_true_iff.mp hp).2)
  obtain ⟨_, rfl⟩ := r₁.inv; obtain ⟨_, rfl⟩ := r₂.inv
  refine call_range_2 ?_
  have g := StaysIn.trans g₁ g₂
  refine range_src S (t := t) (h₀ := s.heap) (s := { s with heap := _, toks := _ }) (n := n) (StaysIn.trans g keep_push) ((ok.alive.grow g).grow keep_push) (Heap.get?_push_size _ rfl) ha hb h fun I wr fp vs St h' tk' a b c d e f => ?_
  exact hQ I wr fp vs St h' tk' a b c d e f

/-! a text, sign by sign -/
noncomputable abbrev signs (x : Str) : List D := x.cps.toList.map fun c => .str ⟨#[c]⟩
theorem signs_rep {O : Addr → Prop} {h : Heap} : ∀ (l : List Nat), RepL O h (l.map fun c => Value.str ⟨#[c]⟩ 0) (l.map fun c => D.str ⟨#[c]⟩)
  | [] => .nil
  | _ :: l => .cons _ _ _ _ (.str _ _) (signs_rep l)
theorem Src.strA (S : Site Γ k) {t e : Expr} {x : Str} (he : Ev Γ env ρ e (.str x)) (ha : x.cps.all (· < 128) = true) : Src Γ env ρ t e (fun _ d => d) (signs x) := by
  constructor; intro O s ok Q hQ
  refine he.run O s ok _ fun v h' tk' g r => ?_
  obtain ⟨tx, rfl⟩ := r.inv
  refine wpAny_pyIter_ascii ha ?_
  have W := Walks.strAscii (prog := Γ.prog) (w := Γ.w) S.handled h'.objs.size x tx
  refine hQ h'.objs.size [h'.objs.size] [h'.objs.size] (x.cps.toList.map fun c => Value.str ⟨#[c]⟩ 0) _ _ tk' (StaysIn.trans g keep_push) (Walks.stp W rfl rfl rfl (by simp) (fun i h st b hb => ?_) (fun i h st b hb o e => ?_) (fun i h st => ?_) fun i v u hv hu O h d r => ?_) ⟨_, Heap.get?_push_size _ rfl, rfl, rfl⟩ (signs_rep _) (fun b hb => ?_) fun b hb => ?_
  · rw [List.mem_singleton.mp hb]; obtain ⟨o, e, _⟩ := st; exact ⟨o, e⟩
  · rw [List.mem_singleton.mp hb] at e
    obtain ⟨o', e', hc, _⟩ := st
    rw [e] at e'; cases e'
    exact notSeq hc (by decide) (by decide)
  · obtain ⟨o, e, hc, _⟩ := st
    exact ⟨o, _, e, hc, by decide⟩
  · obtain ⟨c, u', hc, rfl⟩ := hu
    rw [List.getElem?_map, Option.map_eq_some_iff] at hv
    obtain ⟨j, hj, rfl⟩ := hv
    have : j = c := by
      rw [Array.getElem?_toList, hc] at hj; cases hj; rfl
    subst this
    obtain rfl := r.val
    exact .str _ _
  · rw [List.mem_singleton.mp hb]; exact fresh_of g
  · rw [List.mem_singleton.mp hb]; exact (ok.alive.grow g).fresh (Heap.get?_none_of_le (Nat.le_refl _))

/-! enumerate -/
theorem Src.enum (S : Site Γ k) {ts : List Expr} {tn : Nat} {tp : Pos} {e : Expr} {x : Str} {p pos : Pos} {ds : List D} (hg : Glb Γ env x (.type "enumerate")) (he : Ev Γ env ρ e (.lst ds)) (hp : plainE e = true) :
    Src Γ env ρ (.Tuple ts tn tp) (.Call (.Name x p) [e] [] pos) (fun i d => .tup [.int i, d]) ds := by
  constructor; intro O s ok Q hQ
  refine Call_ (hg.run p _ _ s ok.fr ?_) rfl
  refine PyProof.Rows.callWith_type1 (spliced_more (he.run O s ok _ fun v h' tk' g r => spliced_none ?_) (star_plain hp)) (star_plain hp) rfl
  obtain ⟨l, vs, rfl, hl0, hl, hr⟩ := r.inv
  refine call_enumerate_list hl fun h₂ he₂ hit₂ hsz hk => ?_
  refine wpAny_pyIter_enum he₂ ?_
  have hlt : l < h'.objs.size := by obtain ⟨o, e, _⟩ := hl; exact Heap.lt_size e
  have W := WalksT.enumerate (prog := Γ.prog) (w := Γ.w) S.handled (h'.objs.size + 1) h'.objs.size l (Nat.ne_of_gt (Nat.lt_succ_self _)) (Nat.ne_of_lt (Nat.lt_succ_of_lt hlt)) (Nat.ne_of_lt hlt) vs.toArray
  have up : h'.StaysIn h₂ := fun b o e => hk b o e
  have none0 : ∀ b, h'.objs.size ≤ b → s.heap.get? b = none := fun b hb => by
    cases q : s.heap.get? b with
    | none => rfl
    | some o => exact absurd (Heap.lt_size (g _ _ q)) (Nat.not_lt.mpr hb)
  refine hQ (h'.objs.size + 1) [h'.objs.size + 1, h'.objs.size] [h'.objs.size + 1, h'.objs.size, l] vs _ h₂ tk' (StaysIn.trans g up) ⟨W.sub, fun i h st b hb => ?_, fun i h st b hb o e => ?_, W.frame, fun i v s₀ Q' K hv st hK hQ' => ?_, fun q => ?_, fun s₀ Q' st hQ' => ?_, fun i s₀ Q' st hQ' => W.self i s₀ Q' No st hQ'⟩ ⟨⟨_, he₂⟩, hit₂, IsList.at_ hl fun o e => hk l o e⟩ (hr.grow up) (fun b hb => ?_) fun b hb => ?_
  · obtain ⟨⟨old, e1⟩, ⟨o2, e2, _⟩, ⟨o3, e3, _⟩⟩ := st
    rcases List.mem_cons.mp hb with rfl | hb
    · exact ⟨_, e1⟩
    · rcases List.mem_cons.mp hb with rfl | hb
      · exact ⟨_, e2⟩
      · rw [List.mem_singleton.mp hb]; exact ⟨_, e3⟩
  · obtain ⟨⟨old, e1⟩, ⟨o2, e2, c2, _⟩, _⟩ := st
    rcases List.mem_cons.mp hb with rfl | hb
    · rw [e1] at e; cases e
      exact notSeq (c := "enumerate") rfl (by decide) (by decide)
    · rw [List.mem_singleton.mp hb, e2] at e; cases e
      exact notSeq c2 (by decide) (by decide)
  · have hi : i < vs.toArray.size := by
      rcases Nat.lt_or_ge i vs.length with h | h
      · simpa using h
      · rw [List.getElem?_eq_none h] at hv; cases hv
    refine W.item i s₀ _ No hi st fun T vals h₁ tk₁ hP hT hTup mid kk => hK _ _ ?_
    obtain ⟨ti, y, hy, rfl⟩ := hP
    have hyv : y = v := by
      have : vs[i]? = some y := by simpa using hy
      rw [hv] at this; cases this; rfl
    subst hyv
    refine W.go ts tn tp i T { s₀ with heap := h₁, toks := tk₁ } _ No mid fun h₂ st₂ k₂ => ?_
    refine hQ' (.ref T) h₂ tk₁ st₂ (fun b o hb e => k₂ b o hb (kk b o hb e)) fun O d al r => ?_
    have hnw := W.apart i T h₁ mid
    obtain ⟨oT, eT, cT, nT, dT⟩ := hTup
    refine .tup T [.int i ti, y] [.int i, d] (al.fresh (Heap.get?_none_of_le hT)) ⟨oT, k₂ T oT hnw eT, cT, nT, ?_⟩ (.cons _ _ _ _ (.int _ _) (.cons _ _ _ _ r .nil))
    exact dT
  · exact (Bool.false_ne_true q).elim
  · exact W.done s₀ Q' No (by rw [List.size_toArray]; exact st) hQ'
  · rcases List.mem_cons.mp hb with rfl | hb
    · exact none0 _ (by omega)
    · rw [List.mem_singleton.mp hb]; exact none0 _ (Nat.le_refl _)
  · rcases List.mem_cons.mp hb with rfl | hb
    · exact (ok.alive.grow g).fresh (Heap.get?_none_of_le (by omega))
    · rcases List.mem_cons.mp hb with rfl | hb
      · exact (ok.alive.grow g).fresh (Heap.get?_none_of_le (Nat.le_refl _))
      · rw [List.mem_singleton.mp hb]; exact hl0

/-! slices of lists -/
theorem RepL.pick {O : Addr → Prop} {h : Heap} {vs : List Value} {ds : List D} (r : RepL O h vs ds) : ∀ (l : List Nat), RepL O h (l.filterMap (vs[·]?)) (l.filterMap (ds[·]?))
  | [] => .nil
  | i :: l => by
    rcases Nat.lt_or_ge i ds.length with q | q
    · have hd : ds[i]? = some ds[i] := List.getElem?_eq_getElem q
      obtain ⟨v, e1, e2⟩ := r.get hd
      rw [List.filterMap_cons_some (b := v) e1, List.filterMap_cons_some (b := ds[i]) hd]
      exact .cons _ _ _ _ e2 (r.pick l)
    · rw [List.filterMap_cons_none (List.getElem?_eq_none q), List.filterMap_cons_none (List.getElem?_eq_none (by rw [r.length]; exact q))]
      exact r.pick l
end

/-! part L10 -/
theorem comp_store {Γ : G} {env : Env} {x : Str} {v : Value} {s : Shared} {Q : Unit → Shared → Prop} (hk : env.scope.kind = .function)
    (hx : (env.kindOf x = some .local ∧ env.cells.lookup x = none) ∨ (env.kindOf x = some .cell ∧ ∃ c, env.cells.lookup x = some c ∧ c ≠ env.locals ∧ ∃ w, s.heap.IsCell c w)) (hdb : (x == ("__debug__" : Str)) = false)
    (hn : ∃ m, s.heap.Ns env.locals m)
    (hQ : ∀ h' tk' d, (d = env.locals ∨ env.cells.lookup x = some d) → Heap.SameBut d s.heap h' → (∃ m, h'.Ns env.locals m) → (∀ c, env.cells.lookup x = some c → ∃ w, h'.IsCell c w) → RV Γ env h' x v → (∃ o, h'.get? d = some o) → Q () { s with heap := h', toks := tk' }) :
    wpAny Γ.M Γ.A (storeName env x v) Q No s := by
  obtain ⟨m, hn⟩ := hn
  rcases hx with ⟨h1, h2⟩ | ⟨h1, c, h2, h3, w, h4⟩
  · refine wpAny_storeName_local h1 hn (fun h' hn' hs => ?_) (by rw [hk]; rfl)
    refine hQ h' _ _ (.inl rfl) hs ⟨_, hn'⟩ (fun c e => by rw [h2] at e; cases e) ⟨fun h'' g pos Q E s₁ es hq => ?_, fun c e => by rw [h2] at e; cases e⟩ (by obtain ⟨o, _, _, e, _⟩ := hn'; exact ⟨o, e⟩)
    exact wpAny_Name (wpAny_loadName_local (m := fun z => if z = x then some v else m z) hk h1 (by rw [es]; exact hn'.at' fun o e => g _ o e) (by simp) hq) hdb
  · refine wpAny_storeName_cell hk h1 h2 h4 fun h' hc hs => ?_
    refine hQ h' _ c (.inr h2) hs ⟨_, hn.sameBut hs h3.symm⟩ (fun c' e => by rw [h2] at e; cases e; exact ⟨_, hc⟩) ⟨fun h'' g pos Q E s₁ es hq => ?_, fun c' e => by rw [h2] at e; cases e; exact hc⟩ (by obtain ⟨o, e, _⟩ := hc; exact ⟨o, e⟩)
    obtain ⟨o, ho, hd⟩ := hc
    exact wpAny_Name (wpAny_loadName_cell hk h1 h2 ⟨o, by rw [es]; exact g _ o ho, hd⟩ hq) hdb

theorem wpAny_compEnv {M : Model} {A : Around} {E : Value → Shared → Prop} {s : Shared} {scope : Scope} {env : Env} {cl : List (Str × Addr)} {Q : Env → Shared → Prop}
    (hQ : Q (newEnv scope s.heap.objs.size env.globals (cellsFrom (s.heap.objs.size + 1) scope.names cl) env.qual none .none (some env) env.builtins)
      { s with heap := pushCells (s.heap.push { cls := .type "dict", data := .dict #[] }) scope.names }) :
    wpAny M A (newFunctionEnv scope env.globals cl [] env.qual none .none (some env)) Q E s := by
  simp only [newFunctionEnv, Option.isSome_some, if_true]
  refine wpAny_bind (wpAny_alloc ?_)
  refine wpAny_bind (wpAny_layCells _ (fun name kind cells => by cases hkc : kind == NameKind.cell <;> simp [hkc]) _ _ _ _ ?_)
  rw [show ({ s with heap := s.heap.push { cls := .type "dict", data := .dict #[] } } : Shared).heap.objs.size = s.heap.objs.size + 1 from Heap.size_push ..]
  simp only [List.forIn_nil]
  exact wpAny_bind (wpAny_pure (wpAny_pure hQ))

/-- the tests of a comprehension -/
structure EvIf (Γ : G) (env : Env) (ρ : Store) (ifs : List Expr) (b : Bool) : Prop where
  run : ∀ (O : Addr → Prop) (s : Shared), Ok Γ env O ρ s.heap → ∀ Q : Bool → Shared → Prop,
    (∀ h' tk', s.heap.StaysIn h' → Q b { s with heap := h', toks := tk' }) →
    wpAny Γ.M Γ.A (forIn ifs true fun c r => if r = true then do let ok ← PySem.isTrue c env (eval c env); pure (ForInStep.yield ok) else pure (ForInStep.yield r)) Q No s
section
variable {Γ : G} {env : Env} {ρ : Store} {k : Nat}
theorem EvIf.nil : EvIf Γ env ρ [] true := ⟨fun O s ok Q hQ => by rw [List.forIn_nil]; exact wpAny_pure (hQ s.heap s.toks (StaysIn.refl _))⟩
theorem EvIf.one {c : Expr} {b : Bool} (h : EvT Γ env ρ c b) : EvIf Γ env ρ [c] b := ⟨fun O s ok Q hQ => wpAny_tests_one (h.run O s ok Q hQ)⟩

/-- the names that a comprehension sees -/
noncomputable def compS (fr : List Str) (ρ : Store) (x : Str) (d : D) : Store := fun y => if y = x then some (.imm d) else if y ∈ fr then ρ y else none
theorem compS_x {fr : List Str} {x : Str} {d : D} : compS fr ρ x d x = some (.imm d) := if_pos rfl
theorem compS_y {fr : List Str} {x y : Str} {d : D} {c : SV} (h : decide (y = x) = false) (hm : decide (y ∈ fr) = true) (e : ρ y = some c) : compS fr ρ x d y = some c := by
  unfold compS
  rw [if_neg (of_decide_eq_false h), if_pos (of_decide_eq_true hm), e]

/-- the scope of a comprehension: the name of its turn, the names from around -/
structure CompOk (env : Env) (scope : Scope) (cl : List (Str × Addr)) (x : Str) (fr : List Str) : Prop where
  clo : closureFor scope env = pure cl
  kind : scope.kind = .function
  names : ∀ y ∈ scope.names, y.2 = .local → scope.names.lookup y.1 = some .local
  hx : ∀ C, ((relabel scope env).names.lookup x = some .local ∧ (cellsFrom (C + 1) scope.names cl).lookup x = none) ∨
    ((relabel scope env).names.lookup x = some .cell ∧ (cellsFrom (C + 1) scope.names cl).lookup x = some (C + 1) ∧ (cellsFrom (C + 1) scope.names []).lookup x = some (C + 1))
  hdb : (x == ("__debug__" : Str)) = false
  hfr : ∀ C, ∀ y ∈ fr, ∃ c, env.cells.lookup y = some c ∧ (cellsFrom (C + 1) scope.names cl).lookup y = some c ∧ ((relabel scope env).names.lookup y = some .cell ∨ (relabel scope env).names.lookup y = some .free) ∧
    (y == ("__debug__" : Str)) = false ∧ (y == ("__classdict__" : Str)) = false

theorem comp_core (S : Site Γ k) {elt it : Expr} {x : Str} {px pos : Pos} {ifs : List Expr} {scope : Scope} {cl : List (Str × Addr)} {α : Type} {l : List α} {gt : α → D} {fr : List Str} (p : α → Bool) (f : α → D)
    (hsrc : Src Γ env ρ (.Name x px) it (fun _ d => d) (l.map gt)) (hc : CompOk env scope cl x fr)
    (hif : ∀ a ∈ l, ∀ C, EvIf Γ (compEnvC scope (cellsFrom (C + 1) scope.names cl) C env) (compS fr ρ x (gt a)) ifs (p a))
    (helt : ∀ a ∈ l, p a = true → ∀ C, Ev Γ (compEnvC scope (cellsFrom (C + 1) scope.names cl) C env) (compS fr ρ x (gt a)) elt (f a))
    (hz : l.length ≤ sizeLine) (hs : noSet it = true) {use : Option (Value → Sem Unit)}
    {O : Addr → Prop} {s : Shared} (ok : Ok Γ env O ρ s.heap) {Q : Value → Shared → Prop}
    (hQ : ∀ C D vs h' tk', s.heap.StaysIn h' → s.heap.get? C = none → s.heap.get? D = none → C ≠ D → (∃ m, h'.Ns C m) → LstAt h' D vs → RepL (fun b => O b ∨ b = C ∨ b = D) h' vs ((l.filter p).map f) →
      compPost Γ.M Γ.A No use Q (.ref D) C (.ok .next) { s with heap := h', toks := tk' }) :
    wpAny Γ.M Γ.A (comprehension (.ListComp elt [⟨.Name x px, it, ifs, 0⟩] scope pos) scope env it.pos (newList []) false (eval it env) use) Q No s := by
  refine wpAny_comprehension_free rfl (set_plain hs) hc.clo hc.kind hc.names (wpAny_mono (hsrc.run O s ok (fun iv s' => ∃ I wr fp vs St h' tk', iv = .ref I ∧ s' = { s with heap := h', toks := tk' } ∧ s.heap.StaysIn h' ∧ Stp Γ (.Name x px) I wr fp vs (fun _ d => d) St ∧ St 0 h' ∧ RepL O h' vs (l.map gt) ∧ (∀ b ∈ wr, s.heap.get? b = none) ∧ (∀ b ∈ fp, ¬ O b))
    fun I wr fp vs St h' tk' a b c d e f => ⟨I, wr, fp, vs, St, h', tk', rfl, rfl, a, b, c, d, e, f⟩) (fun _ _ z => wpAny_mono z (fun iv s₂ z => ?_) fun _ _ e => e.elim) fun _ _ e => e.elim)
  obtain ⟨I, wr, fp, ivs, St, h₀, tk₀, rfl, rfl, g, W, st0, hr, hwr, hfp⟩ := z
  have hlen : ivs.length = l.length := by rw [hr.length, List.length_map]
  refine wpAny_newObj_type (wpAny_compEnv ?_)
  dsimp only
  -- the new objects
  generalize hH2 : h₀.push { cls := .type "list", dict := none, data := .seq ([] : List Value).toArray } = H2
  have hC : H2.objs.size = h₀.objs.size + 1 := by rw [← hH2, Heap.size_push]
  generalize hDe : h₀.objs.size = D at hC
  generalize hCe : H2.objs.size = C at hC
  have okc := cellsFrom_ok scope.names (H2.push { cls := .type "dict", data := .dict #[] }) (C + 1) [] ⟨fun _ _ hm => (nomatch hm), List.Pairwise.nil⟩ (by rw [Heap.size_push, hCe]; exact Nat.le_refl _)
  rw [Heap.size_push, hCe] at okc
  generalize hH3 : pushCells (H2.push { cls := .type "dict", data := .dict #[] }) scope.names = H3 at okc
  have up2 : h₀.StaysIn H2 := by rw [← hH2]; exact keep_push
  have up3 : H2.StaysIn H3 := by rw [← hH3]; exact fun b o e => pushCells_keeps _ _ b o (keep_push b o e)
  have hD3 : LstAt H3 D [] := ⟨0, up3 _ _ (by rw [← hH2, ← hDe]; exact Heap.get?_push_size _ rfl)⟩
  have hC3 : ∃ m, H3.Ns C m := ⟨_, by rw [← hH3, ← hCe]; exact (Heap.Ns.new H2 (.type "dict")).keeps (pushCells_keeps _ _)⟩
  generalize hcells : cellsFrom (C + 1) scope.names cl = cells at *
  have hX3 : ∀ c, cells.lookup x = some c → c = C + 1 ∧ ∃ w, H3.IsCell c w := fun c e => by
    rcases hc.hx C with ⟨_, q⟩ | ⟨_, q1, q2⟩
    · rw [hcells, e] at q; cases q
    · rw [hcells, e] at q1; cases q1
      exact ⟨rfl, _, (okc.empty x _ (mem_of_lookup q2)).1⟩
  have hbig : ∀ b, (b = D ∨ b = C ∨ cells.lookup x = some b) → D ≤ b := fun b hb => by
    rcases hb with rfl | rfl | hb
    · exact Nat.le_refl _
    · omega
    · rw [(hX3 b hb).1]; exact Nat.le_trans (Nat.le_of_lt (hC ▸ Nat.lt_succ_self D)) (Nat.le_succ _)
  have hnone : ∀ b, (b = D ∨ b = C ∨ cells.lookup x = some b) → h₀.get? b = none := fun b hb => Heap.get?_none_of_le (hDe ▸ hbig b hb)
  have hsnone : ∀ b, (b = D ∨ b = C ∨ cells.lookup x = some b) → s.heap.get? b = none := fun b hb => by
    cases q : s.heap.get? b with
    | none => rfl
    | some o => have := g _ _ q; rw [hnone b hb] at this; cases this
  let O' : Addr → Prop := fun b => O b ∨ (b = D ∨ b = C ∨ cells.lookup x = some b)
  have hfp' : ∀ b ∈ fp, ¬ O' b := fun b hb q => by
    rcases q with q | q
    · exact hfp b hb q
    · obtain ⟨o, e⟩ := W.live 0 h₀ st0 b hb
      rw [hnone b q] at e; cases e
  have hwr' : ∀ b ∈ wr, ¬ O' b := fun b hb => hfp' b (W.sub b hb)
  have live3 : ∀ b, (b = D ∨ b = C ∨ cells.lookup x = some b) → ∃ o, H3.get? b = some o := fun b hb => by
    rcases hb with rfl | rfl | hb
    · obtain ⟨n, e⟩ := hD3; exact ⟨_, e⟩
    · obtain ⟨m, o, _, _, e, _⟩ := hC3; exact ⟨o, e⟩
    · obtain ⟨_, w, o, e, _⟩ := hX3 b hb; exact ⟨o, e⟩
  have al3 : Alive O' H3 := fun b hb => by
    rcases hb with hb | hb
    · obtain ⟨o, e⟩ := (ok.alive.grow g) b hb
      exact ⟨o, up3 _ _ (up2 _ _ e)⟩
    · exact live3 b hb
  have hr3 : RepL O' H3 ivs (l.map gt) := hr.move fun b o e n => ⟨fun q => q.elim n fun q => (by rw [hnone b q] at e; cases e), up3 _ _ (up2 _ _ e)⟩
  have st3 : St 0 H3 := W.frame _ _ _ st0 fun b _ o e => up3 _ _ (up2 _ _ e)
  have keep3 : s.heap.StaysIn H3 := StaysIn.trans g (StaysIn.trans up2 up3)
  have hkC : (compEnvC scope cells C env).scope.kind = .function := hc.kind
  have hCD : C ≠ D := by omega
  show codeAny Γ.M Γ.A (.compStart _ 0 (.ref I) (.ref D) (compEnvC scope cells C env)) _ _
  have loop : codeAny Γ.M Γ.A (.compLoop (.ListComp elt [⟨.Name x px, it, ifs, 0⟩] scope pos) 0 (.ref I) (.ref D) (compEnvC scope cells C env)) (compPost Γ.M Γ.A No use Q (.ref D) C) { s with heap := H3, toks := tk₀ } := by
    refine codeAny_compLoop_tests (fun k s' => ∃ i h' tk' vs, s' = { s with heap := h', toks := tk' } ∧ i ≤ l.length ∧ k = l.length + 1 - i ∧ St i h' ∧ (∃ m, h'.Ns C m) ∧ (∀ c, cells.lookup x = some c → ∃ w, h'.IsCell c w) ∧ LstAt h' D vs ∧
      RepL O' h' vs (((l.take i).filter p).map f) ∧ RepL O' h' ivs (l.map gt) ∧ s.heap.StaysIn h' ∧ Alive O' h') ?_ (l.length + 1) ⟨0, H3, tk₀, [], rfl, Nat.zero_le _, rfl, st3, hC3, fun c e => (hX3 c e).2, hD3, by simpa using RepL.nil, hr3, keep3, al3⟩
    rintro k' s' ⟨i, h', tk', vs, rfl, hi, rfl, st, hN, hX, hL, hvs, hiv, keep, al⟩
    have wrok : ∀ b ∈ wr, ¬ O' b ∧ ∀ o, h'.get? b = some o → ¬ SeqObj o := fun b hb => ⟨hwr' b hb, W.cls i h' st b hb⟩
    have keepw : ∀ h₁ : Heap, (∀ b o, b ∉ wr → h'.get? b = some o → h₁.get? b = some o) → s.heap.StaysIn h₁ := fun h₁ hk a o e => hk a o (fun q => by rw [hwr a q] at e; cases e) (keep a o e)
    by_cases hlt : i < l.length
    · have hv : ivs[i]? = some (ivs[i]'(by omega)) := List.getElem?_eq_getElem _
      obtain ⟨d, hd, rd⟩ := hiv.getV hv
      rw [List.getElem?_map, Option.map_eq_some_iff] at hd
      obtain ⟨a, hd, rfl⟩ := hd
      have hmem : a ∈ l := List.mem_of_getElem? hd
      refine wpAny_noRaise (W.nxt rfl i _ { s with heap := h', toks := tk' } _ hv st fun u h₁ tk₁ st₁ hk₁ hu => ?_)
      have mv1 : ∀ b o, h'.get? b = some o → ¬ O' b → SeqObj o → ¬ O' b ∧ h₁.get? b = some o := fun b o e n q => ⟨n, hk₁ b o (fun z => (wrok b z).2 o e q) e⟩
      have inO1 : ∀ b o, O' b → h'.get? b = some o → h₁.get? b = some o := fun b o hb e => hk₁ b o (fun q => hwr' b q hb) e
      have OC : O' C := .inr (.inr (.inl rfl))
      have OD : O' D := .inr (.inl rfl)
      have OX : ∀ c, cells.lookup x = some c → O' c := fun c e => .inr (.inr (.inr e))
      have keep1 := keepw h₁ hk₁
      have al1 : Alive O' h₁ := fun b hb => let ⟨o, e⟩ := al b hb; ⟨o, inO1 b o hb e⟩
      have ru : Rep O' h₁ u (gt a) := hu O' (gt a) al (rd.moveS mv1)
      have hN1 : ∃ m, h₁.Ns C m := let ⟨m, z⟩ := hN; ⟨m, z.at' fun o e => inO1 C o OC e⟩
      have hX1 : ∀ c, cells.lookup x = some c → ∃ w, h₁.IsCell c w := fun c e => let ⟨w, o, ho, hd⟩ := hX c e; ⟨w, o, inO1 c o (OX c e) ho, hd⟩
      have hL1 : LstAt h₁ D vs := hL.at_ fun o e => inO1 D o OD e
      have hxk : ((compEnvC scope cells C env).kindOf x = some .local ∧ (compEnvC scope cells C env).cells.lookup x = none) ∨ ((compEnvC scope cells C env).kindOf x = some .cell ∧ ∃ c, (compEnvC scope cells C env).cells.lookup x = some c ∧ c ≠ (compEnvC scope cells C env).locals ∧ ∃ w, h₁.IsCell c w) := by
        rcases hc.hx C with ⟨q1, q2⟩ | ⟨q1, q2, q3⟩
        · rw [hcells] at q2; exact .inl ⟨q1, q2⟩
        · rw [hcells] at q2
          exact .inr ⟨q1, C + 1, q2, Nat.succ_ne_self C, hX1 _ q2⟩
      refine wpAny_noRaise (wpAny_assign_Name (comp_store (Γ := Γ) (env := compEnvC scope cells C env) (s := { s with heap := h₁, toks := tk₁ }) hkC hxk hc.hdb hN1 fun h₂ tk₂ dd hdd hsb hN2 hX2 hrv hod => ?_))
      have Odd : O' dd := by
        rcases hdd with rfl | e
        · exact OC
        · exact OX _ e
      have hddD : dd ≠ D := by
        rcases hdd with rfl | e
        · exact hCD
        · rw [(hX3 dd e).1]; exact Nat.ne_of_gt (Nat.lt_succ_of_lt (hC ▸ Nat.lt_succ_self D))
      have ddnone : s.heap.get? dd = none := hsnone dd (by
        rcases hdd with rfl | e
        · exact .inr (.inl rfl)
        · exact .inr (.inr e))
      have mv2 : ∀ b o, h₁.get? b = some o → ¬ O' b → ¬ O' b ∧ h₂.get? b = some o := fun b o e n => ⟨n, (hsb.2 b fun q => n (q ▸ Odd)).trans e⟩
      have keep2 : s.heap.StaysIn h₂ := fun a o e => (hsb.2 a fun q => by rw [q, ddnone] at e; cases e).trans (keep1 a o e)
      have al2 : Alive O' h₂ := fun b hb => live_but hod hsb b _ (al1 b hb).choose_spec
      have hL2 : LstAt h₂ D vs := hL1.at_ fun o e => (hsb.2 D hddD.symm).trans e
      have st2 : St (i + 1) h₂ := W.frame _ _ _ st₁ fun b hb o e => (hsb.2 b fun q => hfp' b hb (q ▸ Odd)).trans e
      have hvs2 : RepL O' h₂ vs (((l.take i).filter p).map f) := (hvs.moveS mv1).move mv2
      have hiv2 : RepL O' h₂ ivs (l.map gt) := (hiv.moveS mv1).move mv2
      have ok2 : Ok Γ (compEnvC scope cells C env) O' (compS fr ρ x (gt a)) h₂ := by
        refine ⟨ok.fr.grow keep2, al2, fun y c e => ?_⟩
        unfold compS at e
        by_cases q : y = x
        · rw [if_pos q] at e; cases e
          rw [q]
          exact ⟨u, hrv, ru.move mv2⟩
        · rw [if_neg q] at e
          by_cases q2 : y ∈ fr
          · rw [if_pos q2] at e
            obtain ⟨cy, e1, e2, e3, e4, e5⟩ := hc.hfr C y q2
            rw [hcells] at e2
            have tr : ∀ v, RV Γ env s.heap y v → RV Γ (compEnvC scope cells C env) h₂ y v := fun v rv => by
              obtain ⟨o, ho, hdat⟩ := rv.2 cy e1
              refine ⟨fun h'' gg pos Q E s₁ es hq => ?_, fun c' e' => ?_⟩
              · have hcell : s₁.heap.IsCell cy (some v) := ⟨o, by rw [es]; exact gg _ _ (keep2 _ _ ho), hdat⟩
                rcases e3 with e3 | e3
                · exact wpAny_Name (wpAny_loadName_cell hkC e3 e2 hcell hq) e4
                · exact wpAny_Name (wpAny_loadName_free hkC e3 e2 hcell hq e5) e4
              · rw [show (compEnvC scope cells C env).cells.lookup y = some cy from e2] at e'; cases e'
                exact ⟨o, keep2 _ _ ho, hdat⟩
            have mvr : ∀ b o, s.heap.get? b = some o → ¬ O b → ¬ O' b ∧ h₂.get? b = some o := fun b o e n => ⟨fun q => q.elim n fun q => (by rw [hsnone b q] at e; cases e), keep2 b o e⟩
            have := ok.var y c e
            cases c with
            | imm dy => obtain ⟨v, a, b⟩ := this; exact ⟨v, tr v a, b.move mvr⟩
            | own dsy => obtain ⟨ay, vs', w1, w2, w3⟩ := this; exact ⟨ay, vs', tr _ w1, IsList.at_ w2 fun o e => keep2 ay o e, w3.move mvr⟩
          · rw [if_neg q2] at e; cases e
      have htake : (l.take (i + 1)).filter p = (l.take i).filter p ++ (if p a then [a] else []) := take_succ_filter p l i a hd
      have hif' := hif a hmem C
      rw [hcells] at hif'
      refine wpAny_noRaise (hif'.run O' { s with heap := h₂, toks := tk₂ } ok2 _ fun h₃ tk₃ g₃ => ?_)
      cases hp : p a with
      | false =>
        rw [if_neg Bool.false_ne_true]
        refine ⟨l.length + 1 - (i + 1), by omega, i + 1, h₃, tk₃, vs, rfl, hlt, rfl, W.frame _ _ _ st2 fun b _ o e => g₃ b o e, let ⟨m, z⟩ := hN2; ⟨m, z.at' fun o e => g₃ _ o e⟩, fun c e => let ⟨w, o, ho, hd⟩ := hX2 c e; ⟨w, o, g₃ _ _ ho, hd⟩, hL2.at_ fun o e => g₃ _ _ e, ?_, hiv2.grow g₃, StaysIn.trans keep2 g₃, al2.grow g₃⟩
        rw [htake, hp]
        simpa using hvs2.grow g₃
      | true =>
        rw [if_pos rfl]
        have he := helt a hmem hp C
        rw [hcells] at he
        refine wpAny_noRaise (he.run O' { s with heap := h₃, toks := tk₃ } (ok2.grow g₃) _ fun v₄ h₄ tk₄ g₄ r₄ => ?_)
        have g34 := StaysIn.trans g₃ g₄
        obtain ⟨nL, eL⟩ := hL2
        have hsz : vs.toArray.size ≤ sizeLine := by
          have h1 : vs.length ≤ l.length := by
            rw [hvs2.length, List.length_map]
            exact Nat.le_trans (List.length_filter_le _ _) (by rw [List.length_take]; exact Nat.min_le_right _ _)
          rw [List.size_toArray]; omega
        refine wpAny_noRaise (append_at (s := { s with heap := h₄, toks := tk₄ }) (g34 _ _ eL) (fun h₅ hs₅ ho₅ => ?_) hsz)
        rw [push_list] at ho₅
        have mv5 : ∀ b o, h₄.get? b = some o → ¬ O' b → ¬ O' b ∧ h₅.get? b = some o := fun b o e n => ⟨n, (hs₅.2 b fun q => n (q ▸ OD)).trans e⟩
        refine ⟨l.length + 1 - (i + 1), by omega, i + 1, h₅, tk₄, vs ++ [v₄], rfl, hlt, rfl, W.frame _ _ _ st2 fun b hb o e => (hs₅.2 b fun q => hfp' b hb (q ▸ OD)).trans (g34 _ _ e), let ⟨m, z⟩ := hN2; ⟨m, z.at' fun o e => (hs₅.2 C hCD).trans (g34 _ o e)⟩,
          fun c e => let ⟨w, o, ho, hd⟩ := hX2 c e; ⟨w, o, (hs₅.2 c (by rw [(hX3 c e).1]; exact Nat.ne_of_gt (Nat.lt_succ_of_lt (hC ▸ Nat.lt_succ_self D)))).trans (g34 _ _ ho), hd⟩, ⟨_, ho₅⟩, ?_, (hiv2.grow g34).move mv5, fun a o e => (hs₅.2 a fun q => by rw [q, hsnone D (.inl rfl)] at e; cases e).trans (StaysIn.trans keep2 g34 a o e), fun b hb => live_but ⟨_, ho₅⟩ hs₅ b _ ((al2.grow g34) b hb).choose_spec⟩
        rw [htake, hp, if_pos rfl, List.map_append]
        exact ((hvs2.grow g34).move mv5).append (.cons _ _ _ _ (r₄.move mv5) .nil)
    · obtain rfl : i = l.length := by omega
      rw [← hlen] at st
      refine wpAny_noRaise (W.done { s with heap := h', toks := tk' } _ st fun h₁ tk₁ hk₁ => ?_)
      rw [hlen] at st
      have inO1 : ∀ b o, O' b → h'.get? b = some o → h₁.get? b = some o := fun b o hb e => hk₁ b o (fun q => hwr' b q hb) e
      have mv1 : ∀ b o, h'.get? b = some o → ¬ O' b → SeqObj o → ¬ (O b ∨ b = C ∨ b = D) ∧ h₁.get? b = some o := fun b o e n q => ⟨fun z => n (by rcases z with z | z | z; exact .inl z; exact .inr (.inr (.inl z)); exact .inr (.inl z)), hk₁ b o (fun z => (wrok b z).2 o e q) e⟩
      rw [List.take_of_length_le (Nat.le_refl _)] at hvs
      exact hQ C D vs h₁ tk₁ (keepw h₁ hk₁) (hsnone C (.inr (.inl rfl))) (hsnone D (.inl rfl)) hCD (let ⟨m, z⟩ := hN; ⟨m, z.at' fun o e => inO1 C o (.inr (.inr (.inl rfl))) e⟩) (hL.at_ fun o e => inO1 D o (.inr (.inl rfl)) e) (hvs.moveS mv1)
  exact codeAny_compStart_list loop (wpAny_noRaise (W.self 0 _ _ st3 loop))
end

/-! part L11 -/
section
variable {Γ : G} {env : Env} {ρ σ : Store} {k : Nat}
theorem Ev.comp (S : Site Γ k) {elt it : Expr} {x : Str} {px pos : Pos} {ifs : List Expr} {scope : Scope} {cl : List (Str × Addr)} {α : Type} {l : List α} {gt : α → D} {fr : List Str} (p : α → Bool) (f : α → D)
    (hsrc : Src Γ env ρ (.Name x px) it (fun _ d => d) (l.map gt)) (hc : CompOk env scope cl x fr)
    (hif : ∀ a ∈ l, ∀ C, EvIf Γ (compEnvC scope (cellsFrom (C + 1) scope.names cl) C env) (compS fr ρ x (gt a)) ifs (p a))
    (helt : ∀ a ∈ l, p a = true → ∀ C, Ev Γ (compEnvC scope (cellsFrom (C + 1) scope.names cl) C env) (compS fr ρ x (gt a)) elt (f a))
    (hz : l.length ≤ sizeLine) (hs : noSet it = true) : Ev Γ env ρ (.ListComp elt [⟨.Name x px, it, ifs, 0⟩] scope pos) (.lst ((l.filter p).map f)) := by
  constructor; intro O s ok Q hQ
  rw [eval_ListComp]
  refine comp_core S p f hsrc hc hif helt hz hs ok fun C D vs h' tk' g hC hD hCD hN hL hr => ?_
  obtain ⟨m, hN⟩ := hN
  refine ⟨m, hN, fun h'' hs'' => hQ (.ref D) h'' tk' (fun a o e => (hs''.2 a fun q => by rw [q, hC] at e; cases e).trans (g a o e)) ?_⟩
  have nD : ¬ O D := ok.alive.fresh hD
  refine .lst D vs _ nD (hL.at_ fun o e => (hs''.2 D hCD.symm).trans e).isList (hr.move fun b o e n => ⟨fun q => n (.inl q), (hs''.2 b fun q => n (.inr (.inl q))).trans e⟩)
theorem FS.drop {O : Addr → Prop} {h h' : Heap} {C : Addr} (X : FS Γ env (fun b => O b ∨ b = C) σ h) (hO : ¬ O C) (hn : ∃ m, h.Ns C m) (hL : C ≠ Γ.L) (hb : Γ.base.get? C = none) (hcell : ∀ y c, env.cells.lookup y = some c → C ≠ c)
    (hsub : ∀ a, Γ.O₀ a → O a) (hs : Heap.SameBut C h h') : FS Γ env O σ h' := by
  obtain ⟨m, cm, y⟩ := X.ex
  have mv : ∀ b o, h.get? b = some o → ¬ (O b ∨ b = C) → ¬ O b ∧ h'.get? b = some o := fun b o e n => ⟨fun q => n (.inl q), (hs.2 b fun q => n (.inr q)).trans e⟩
  refine ⟨X.loc, X.fk, fun b hb => ?_, hsub, m, cm, y.F.change hs hL hb, (y.OL.resolve_right hL.symm), fun z c e => ?_, y.inj, y.wr, fun z c e => ?_, y.apart⟩
  · obtain ⟨o, e⟩ := X.alive b (.inl hb)
    exact ⟨o, (hs.2 b fun q => hO (q ▸ hb)).trans e⟩
  · obtain ⟨p1, p2, p3, o, ho, hd⟩ := y.cell z c e
    exact ⟨p1.resolve_right (hcell z c e).symm, p2, p3, o, (hs.2 c (hcell z c e).symm).trans ho, hd⟩
  · have := y.var z c e
    cases c with
    | imm d => obtain ⟨v, w1, w2⟩ := this; exact ⟨v, w1, w2.move mv⟩
    | own ds =>
      obtain ⟨a, vs, w1, w2, w3, w4, w5⟩ := this
      have ne : a ≠ C := by
        rintro rfl
        obtain ⟨_, o, es, ep, e1, e2, _⟩ := hn
        obtain ⟨n, e3⟩ := w2
        rw [e3] at e1; cases e1
        cases e2
      exact ⟨a, vs, w1, w2.at_ fun o e => (hs.2 a ne).trans e, w3.move mv, w4.resolve_right ne, w5⟩
theorem Ex1.assignComp (S : Site Γ k) {R : Out → Prop} {elt it : Expr} {x y : Str} {px py pos spos : Pos} {ifs : List Expr} {scope : Scope} {cl : List (Str × Addr)} {α : Type} {l : List α} {gt : α → D} {fr : List Str} (p : α → Bool) (f : α → D)
    (hsrc : Src Γ env σ (.Name x px) it (fun _ d => d) (l.map gt)) (hc : CompOk env scope cl x fr)
    (hif : ∀ a ∈ l, ∀ C, EvIf Γ (compEnvC scope (cellsFrom (C + 1) scope.names cl) C env) (compS fr σ x (gt a)) ifs (p a))
    (helt : ∀ a ∈ l, p a = true → ∀ C, Ev Γ (compEnvC scope (cellsFrom (C + 1) scope.names cl) C env) (compS fr σ x (gt a)) elt (f a))
    (hsw : swapsWith (.ListComp elt [⟨.Name x px, it, ifs, 0⟩] scope pos) (some (.Name y py)) spos.line env = pure true) (hw : Wr env y)
    (hR : R (.next (upd σ y (.imm (.lst ((l.filter p).map f))))))
    (hz : l.length ≤ sizeLine) (hs : noSet it = true) : Ex1 Γ env σ (.Assign [.Name y py] (.ListComp elt [⟨.Name x px, it, ifs, 0⟩] scope pos) spos) R := by
  constructor; intro O s X
  rw [exec_Assign_Name_used _ _ _ _ hsw]
  refine wpAny_bind (wpAny_standAt (wpAny_bind ?_))
  show wpAny _ _ (do let _ ← comprehension (.ListComp elt [⟨.Name x px, it, ifs, 0⟩] scope pos) scope env _ (newList []) false (eval it env) (some (PySem.assign (.Name y py) env))) _ _ s
  refine wpAny_bind (wpAny_mono (comp_core S p f hsrc hc hif helt hz hs X.ok (use := some (PySem.assign (.Name y py) env)) (Q := fun _ s' => After Γ env O s R .next s') fun C D vs h' tk' g hC hD hCD hN hL hr => ?_) (fun _ s' hq => wpAny_pure (wpAny_pure hq)) fun _ _ e => e)
  obtain ⟨m, hN⟩ := hN
  have X' := X.own g hC (by obtain ⟨o, _, _, e, _⟩ := hN; exact ⟨o, e⟩)
  have nD : ¬ O D := X.ok.alive.fresh hD
  have nC : ¬ O C := X.ok.alive.fresh hC
  obtain ⟨m₀, cm₀, y₀⟩ := X.ex
  have cL : C ≠ Γ.L := by
    obtain ⟨o, e⟩ := X.alive _ y₀.OL
    rintro rfl; rw [hC] at e; cases e
  have cb : Γ.base.get? C = none := by
    cases q : Γ.base.get? C with
    | none => rfl
    | some o => exact absurd (y₀.F.keep _ _ q) (by rw [hC]; intro h; cases h)
  have cc : ∀ y c, env.cells.lookup y = some c → C ≠ c := fun z c e q => by
    obtain ⟨_, _, _, o, ho, _⟩ := y₀.cell z c e
    rw [← q, hC] at ho; cases ho
  show wpAny _ _ (PySem.assign (.Name y py) env (.ref D)) _ _ _
  refine wpAny_assign_Name (FS.storeC (s := { s with heap := h', toks := tk' }) (c := .imm (.lst ((l.filter p).map f))) X' hw (.lst D vs _ (fun q => q.elim nD hCD.symm) hL.isList (hr.move fun b o e n => ⟨fun q => n (q.elim .inl fun q => .inr (.inl q)), e⟩)) fun h₂ tk₂ X₂ k₂ same => ?_)
  have hN2 : h₂.Ns C m := hN.at' fun o e => (same C cL cc).trans e
  refine ⟨m, hN2, fun h'' hs'' => ?_⟩
  refine ⟨_, h'', tk₂, O, hR, rfl, fun a o e n => ⟨n, ?_⟩, X₂.drop nC ⟨m, hN2⟩ cL cb cc X.sub hs''⟩
  have aC : a ≠ C := fun q => by rw [q, hC] at e; cases e
  exact (hs''.2 a aC).trans (k₂ a o (g a o e) (fun q => q.elim n aC)).2
end

/-! part L12 -/
/-- a part of a slice -/
structure EvP (Γ : G) (env : Env) (ρ : Store) (x : Option Expr) (o : Option Int) : Prop where
  run : ∀ (O : Addr → Prop) (s : Shared), Ok Γ env O ρ s.heap → ∀ Q : Value → Shared → Prop,
    (∀ v h' tk', s.heap.StaysIn h' → IsPart v o → Q v { s with heap := h', toks := tk' }) → wpAny Γ.M Γ.A (evalPart x env) Q No s
section
variable {Γ : G} {env : Env} {ρ σ : Store} {k : Nat}
theorem EvP.none : EvP Γ env ρ none none := ⟨fun _ s _ _ hQ => evalPart_none_step (hQ _ s.heap s.toks (StaysIn.refl _) .none)⟩
theorem EvP.some {e : Expr} {i : Int} (h : Ev Γ env ρ e (.int i)) : EvP Γ env ρ (some e) (some i) := ⟨fun O s ok _ hQ => evalPart_some_step (h.run O s ok _ fun v h' tk' g r => by obtain ⟨_, rfl⟩ := r.inv; exact hQ _ h' tk' g (.int _ _))⟩
noncomputable def sliceD (ds : List D) (lo hi : Option Int) : List D := (ds.drop (kms_lo lo ds.length)).take (kms_hi hi ds.length - kms_lo lo ds.length)
theorem Ev.slice {eo : Expr} {lo hi : Option Expr} {a b : Option Int} {p pos : Pos} {ds : List D} (ho : EvL Γ env ρ eo ds) (h1 : EvP Γ env ρ lo a) (h2 : EvP Γ env ρ hi b) (hz : ds.length ≤ sizeLine) :
    Ev Γ env ρ (.Subscript eo (.Slice lo hi none p) pos) (.lst (sliceD ds a b)) := by
  constructor; intro O s ok Q hQ
  refine Subscript_ (ho.run O s ok _ fun l vs k₁ t₁ g₁ hl hr => ?_)
  have ok1 := ok.grow g₁
  refine wpAny_Slice (h1.run O { s with heap := k₁, toks := t₁ } ok1 _ fun v₁ k₂ t₂ g₂ p₁ => h2.run O { s with heap := k₂, toks := t₂ } (ok1.grow g₂) _ fun v₂ k₃ t₃ g₃ p₂ => evalPart_none_step ?_)
  dsimp only
  have g := StaysIn.trans g₁ (StaysIn.trans g₂ g₃)
  have up : k₃.StaysIn (k₃.push { cls := .type "slice", data := .fields #[v₁, v₂, .none] }) := keep_push
  have hl3 : (k₃.push { cls := .type "slice", data := .fields #[v₁, v₂, .none] }).IsList l vs.toArray := IsList.at_ hl fun o e => up _ _ (g₃ _ _ (g₂ _ _ e))
  have hr3 := (hr.grow (StaysIn.trans g₂ g₃)).grow up
  refine tail_any (s := { s with heap := k₃.push { cls := .type "slice", data := .fields #[v₁, v₂, .none] }, toks := t₃ }) (ops := [.ref k₃.objs.size, .ref l]) hl3.typeIs slot_list_getitem.lookup ?_ rfl
  refine wpAny_getItem_list_slice (st := none) hl3 (Heap.IsSliceOf.new k₃ v₁ v₂ .none) p₁ p₂ .none (by intro h; cases h) ?_ (by rw [List.size_toArray, hr.length]; exact hz)
  have up2 : (k₃.push { cls := .type "slice", data := .fields #[v₁, v₂, .none] }).StaysIn ((k₃.push { cls := .type "slice", data := .fields #[v₁, v₂, .none] }).push { cls := .type "list", data := .seq (slicePick vs.toArray a b none) }) := keep_push
  have e : slicePick vs.toArray a b none = ((vs.drop (kms_lo a vs.length)).take (kms_hi b vs.length - kms_lo a vs.length)).toArray := kms_pick_eq _ _ _
  refine hQ _ _ t₃ (StaysIn.trans g (StaysIn.trans up up2)) (.lst _ ((vs.drop (kms_lo a vs.length)).take (kms_hi b vs.length - kms_lo a vs.length)) _ (((ok.alive.grow g).grow up).fresh (Heap.get?_none_of_le (Nat.le_refl _))) ⟨_, Heap.get?_push_size _ rfl, rfl, 0, by rw [e]⟩ ?_)
  unfold sliceD
  rw [← hr.length]
  exact ((hr3.grow up2).drop _).take _

/-! signs and slices of texts -/
theorem Ev.itemS {eo ei : Expr} {pos : Pos} {x : Str} {i : Int} {c : Nat} (ho : Ev Γ env ρ eo (.str x)) (hi : Ev Γ env ρ ei (.int i)) (h0 : 0 ≤ i) (hk : i < 2 ^ 63) (hd : x.cps[i.toNat]? = some c) (hs : noSlice ei = true) :
    Ev Γ env ρ (.Subscript eo ei pos) (.str ⟨#[c]⟩) := by
  constructor; intro O s ok Q hQ
  refine Subscript_ (ho.run O s ok _ fun v h' tk' g r => ?_)
  refine hi.run O { s with heap := h', toks := tk' } (ok.grow g) _ fun v₂ h₂ tk₂ g₂ r₂ => ?_
  obtain ⟨_, rfl⟩ := r.inv; obtain ⟨_, rfl⟩ := r₂.inv
  refine tail_any (typeIs_str _ _ _) slot_str_getitem.lookup (PyProof.Rows.getItem_str (c := c) ?_ ?_ (hQ _ h₂ _ (StaysIn.trans g g₂) (.str _ _))) (sub_plain hs)
  · have a1 : decide (i < -(2 ^ 63 : Int)) = false := decide_eq_false (by have : (-(2 ^ 63 : Int)) < 0 := by decide
                                                                          omega)
    have a2 : decide (i ≥ 2 ^ 63) = false := decide_eq_false (by omega)
    rw [a1, a2]; rfl
  · have hlt : i.toNat < x.cps.size := by
      rcases Nat.lt_or_ge i.toNat x.cps.size with h | h
      · exact h
      · rw [Array.getElem?_eq_none h] at hd; cases hd
    have : seqIndex? i x.length = some i.toNat := by
      unfold seqIndex?
      have hlt' : i < (x.length : Int) := by
        show i < ((x.cps.size : Nat) : Int)
        omega
      simp
      omega
    rw [this]
    exact hd
end

/-! part L13 -/
section
variable {Γ : G} {env : Env} {ρ σ : Store} {k : Nat}
noncomputable abbrev boolL (bs : List Bool) : List D := bs.map .bool
theorem bools_items {O : Addr → Prop} {h : Heap} : ∀ {bs : List Bool} {vs : List Value}, RepL O h vs (boolL bs) → vs = bs.map Value.bool
  | [], vs, r => r.inv
  | b :: bs, vs, r => by
    rw [show boolL (b :: bs) = .bool b :: boolL bs from rfl] at r
    obtain ⟨_, vs, rfl, a, b⟩ := r.inv
    obtain rfl := a.inv
    rw [bools_items b]; rfl
theorem CallR.all (S : Site Γ k) {bs : List Bool} : CallR Γ (.builtin "all") [.lst (boolL bs)] (.bool (bs.all id)) := by
  constructor; intro O s vs _ _ r Q hQ
  obtain ⟨_, rfl, ra⟩ := r.one; obtain ⟨a, ws, rfl, ha, hl, hr⟩ := ra.inv
  have e := bools_items hr
  subst e
  refine call_all_walk (wpAny_pyIter_list hl ?_)
  have hlt : a ≠ s.heap.objs.size := by obtain ⟨o, e, _⟩ := hl; exact Nat.ne_of_lt (Heap.lt_size e)
  have W := Walks.list (prog := Γ.prog) (w := Γ.w) (A := Γ.A.in1) S.handled s.heap.objs.size a hlt (bs.map Value.bool).toArray
  have up : s.heap.StaysIn (s.heap.push { cls := .type "list_iterator", data := .fields #[.ref a, .int 0 0] }) := fun b o e => Heap.get?_push_of_some _ e
  refine ⟨_, _, _, _, _, _, fun i => bs.getD i true, rfl, W, ⟨⟨_, Heap.get?_push_size _ rfl, rfl, rfl⟩, hl.push _⟩, ?_, fun h' tk hk => ?_⟩
  · intro i v s Q E hP hq
    have : (bs.map Value.bool)[i]? = some v := by simpa using hP
    rw [List.getElem?_map, Option.map_eq_some_iff] at this
    obtain ⟨b, hb, rfl⟩ := this
    have e : bs.getD i true = b := by rw [List.getD_eq_getElem?_getD, hb]; rfl
    have hq' : Q (bs.getD i true) s := hq
    rw [e] at hq'
    exact truthy_bool hq'
  · have e : (List.range (bs.map Value.bool).toArray.size).all (fun i => bs.getD i true) = bs.all id := by
      rw [Bool.eq_iff_iff]
      simp only [List.all_eq_true, List.mem_range, List.size_toArray, List.length_map, id]
      constructor
      · intro h b hb
        obtain ⟨i, hi, rfl⟩ := List.getElem_of_mem hb
        have := h i hi
        rw [List.getD_eq_getElem?_getD, List.getElem?_eq_getElem hi] at this
        exact this
      · intro h i hi
        rw [List.getD_eq_getElem?_getD, List.getElem?_eq_getElem hi]
        exact h _ (List.getElem_mem hi)
    rw [e]
    refine hQ (.bool _) h' tk (fun b o e => hk b o (fun q => ?_) (up b o e)) (.bool _)
    rw [List.mem_singleton.mp q] at e
    exact absurd (Heap.lt_size e) (Nat.lt_irrefl _)
theorem Tru.bitw {a : Int} : Tru Γ (.int a) (a != 0) := Tru.int
theorem Ev.callLen {x : Str} {p pos : Pos} {e : Expr} {ds : List D} (hg : Glb Γ env x (.builtin "len")) (he : EvL Γ env ρ e ds) (hz : (ds.length : Int) < 2 ^ 63) (hp : plainE e = true) : Ev Γ env ρ (.Call (.Name x p) [e] [] pos) (.int ds.length) := by
  constructor; intro O s ok Q hQ
  refine Call_ (hg.run p _ _ s ok.fr ?_) rfl
  refine PyProof.Rows.callWith_builtin1 (spliced_more (he.run O s ok _ fun a vs h' tk' g hl hr => spliced_none ?_) (star_plain hp)) (star_plain hp) rfl
  have e : vs.toArray.size = ds.length := by rw [List.size_toArray, hr.length]
  refine call_len_list hl (by rw [e]; exact hz) ?_
  rw [e]
  exact hQ _ h' _ g (.int _ _)
end

/-! part L14 -/
/-- the order of Python's tuples of ints, of one length -/
noncomputable def lexlt : List Int → List Int → Bool
  | x :: xs, y :: ys => if x == y then lexlt xs ys else decide (x < y)
  | _, _ => false
theorem rich_lt {prog : Program} {w : World} {A : Around} {E : Value → Shared → Prop} {s : Shared} {a b : Int} {t u : Tok} {Q : Value → Shared → Prop} (h : Q (.bool (decide (a < b))) s) : wpAny (model prog w) A (richCompare .Lt (.int a t) (.int b u)) Q E s := PyProof.Rows.lt_int h
theorem tuple_lt (l b : Addr) (xs ys : List (Int × Tok)) (hlen : xs.length = ys.length) (n n2 : Nat) (dd dd2 : Option Addr) (sl sl2 : Array (Option Value)) :
    Meets (Builtin.«tuple.__lt__» ⟨[.ref l, .ref b], []⟩)
      (fun A R s => s.heap.get? l = some { cls := .type "tuple", dict := dd, data := .seq (xs.map kifV).toArray n, slots := sl } ∧ s.heap.get? b = some { cls := .type "tuple", dict := dd2, data := .seq (ys.map kifV).toArray n2, slots := sl2 } ∧
        R (.ok (.ret (.bool (lexlt (xs.map (·.1)) (ys.map (·.1)))))) s) :=
  .of_wp fun prog w A R s h => by
    obtain ⟨hp, g, d, tk, os⟩ := s; obtain ⟨hl, hb, h⟩ := h
    have f2 := AutoSeq1.sub_tuple_tuple
    wp_walk using AutoSeq1.wpAny_loadPart' hl, AutoSeq1.wpAny_loadPart' hb, wpAny_forIn_list _ (fun rest b s' => b.1 = none ∧ s' = ⟨hp, g, d, tk, os⟩ ∧ ∃ xs' ys' : List (Int × Tok), rest = (xs'.map kifV).zip (ys'.map kifV) ∧ xs'.length = ys'.length ∧
      lexlt (xs'.map (·.1)) (ys'.map (·.1)) = lexlt (xs.map (·.1)) (ys.map (·.1))) _
    case turn =>
      rintro ⟨y, x⟩ rest b s' ⟨hb', rfl, xs', ys', hz, hle, hlx⟩
      match xs', ys', hz, hle, hlx with
      | (a, t) :: xs', (c, u) :: ys', hz, hle, hlx =>
        simp only [List.map_cons, List.zip_cons_cons, List.cons.injEq, Prod.mk.injEq] at hz
        obtain ⟨⟨rfl, rfl⟩, rfl⟩ := hz
        rw [List.map_cons, List.map_cons, lexlt] at hlx
        refine wpAny_bind (wpAny_eqBool_int ?_)
        cases hq : (a == c) with
        | true =>
          rw [show ((a, t).fst == (c, u).fst) = true from hq, if_pos rfl] at hlx
          simp only [Bool.not_true, Bool.false_eq_true, if_false]
          exact wpAny_pure ⟨rfl, rfl, xs', ys', rfl, by simpa using hle, hlx⟩
        | false =>
          rw [show ((a, t).fst == (c, u).fst) = false from hq, if_neg Bool.false_ne_true] at hlx
          simp only [Bool.not_false, if_true]
          refine wpAny_bind (wpAny_rule (wpAny_bind (rich_lt ?_)))
          refine wpAny_bind (wpAny_pure (wpAny_pure ?_))
          rw [← hlx] at h
          exact wpAny_pure ⟨_, rfl, h⟩
    case fin =>
      rintro ⟨b1, b2⟩ s' ⟨hb', rfl, xs', ys', hz, hle, hlx⟩
      simp only at hb'
      subst hb'
      have hx0 : xs' = [] := by
        cases xs' with
        | nil => rfl
        | cons a r => cases ys' with
          | nil => simp at hle
          | cons c r' => simp at hz
      subst hx0
      have hy0 : ys' = [] := by
        cases ys' with
        | nil => rfl
        | cons c r' => simp at hle
      subst hy0
      rw [← hlx] at h
      wp_walk
      refine ⟨_, rfl, ?_⟩
      have e : Builtin.Tuple.tupleCompareSizes .Lt (xs.map kifV).toArray.size (ys.map kifV).toArray.size = .bool false := by
        simp [Builtin.Tuple.tupleCompareSizes, hlen]
      rw [e]; exact h
    case h =>
      exact ⟨rfl, rfl, xs, ys, by simp, hlen, rfl⟩

theorem rich_ltT {prog : Program} {w : World} {A : Around} {E : Value → Shared → Prop} {s : Shared} {l b : Addr} {xs ys : List (Int × Tok)} (hlen : xs.length = ys.length) (hl : IsTup s.heap l (xs.map kifV).toArray) (hb : IsTup s.heap b (ys.map kifV).toArray)
    (hu : A.units < cLine) {Q : Value → Shared → Prop} (h : Q (.bool (lexlt (xs.map (·.1)) (ys.map (·.1)))) s) : wpAny (model prog w) A (richCompare .Lt (.ref l) (.ref b)) Q E s := by
  obtain ⟨⟨_, dd, _, sl⟩, ho, rfl, n, rfl⟩ := hl
  obtain ⟨⟨_, dd2, _, sl2⟩, ho2, rfl, n2, rfl⟩ := hb
  exact richCompare_meets_room (op := .Lt) ⟨_, ho, rfl⟩ ⟨_, ho2, rfl⟩ F.slot_tuple_lt F.entry_tuple_lt (F.args_tuple_lt_2 _ _) (tuple_lt l b xs ys hlen n n2 dd dd2 sl sl2)
    ⟨ho, ho2, show Value.bool (lexlt (xs.map (·.1)) (ys.map (·.1))) ≠ Value.notImplemented ∧ Q (.bool (lexlt (xs.map (·.1)) (ys.map (·.1)))) s from ⟨(fun x => nomatch x), h⟩⟩ hu

/-! the least of a list, where to compare two values needs the heap -/
section
variable {prog : Program} {w : World} {A : Around} {R : Result → Shared → Prop} {I : Addr} {fp wr : List Addr} {n : Nat} {P : Nat → Value → Prop} {St : Nat → Heap → Prop}
/-- two values compare so, in every heap that agrees with `h₀` outside of `no` -/
noncomputable def CmpIn (prog : Program) (w : World) (A : Around) (h₀ : Heap) (no : List Addr) (P : Nat → Value → Prop) (bt : Nat → Nat → Bool) : Prop :=
  ∀ i j vi vj (s : Shared) (Q E : Value → Shared → Prop), (∀ b o, b ∉ no → h₀.get? b = some o → s.heap.get? b = some o) → P i vi → P j vj → Q (.bool (bt i j)) s → wpAny (model prog w) A (richCompare .Lt vi vj) Q E s
theorem least_turns (W : Walks prog w A.in1 I fp wr n P St) (bt : Nat → Nat → Bool) (S : Addr) (hSf : S ∉ fp) {h₀ : Heap} (hcmp : CmpIn prog w A.in1 h₀ (S :: wr) P bt) :
    ∀ (k j : Nat) (s : Shared) (best : Value) (c : Nat), n - (j + 1) = k → j + 1 ≤ n → St (j + 1) s.heap → P (argBest bt j) best → (∀ b o, b ∉ S :: wr → h₀.get? b = some o → s.heap.get? b = some o) →
    s.heap.get? S = some { cls := .type "list", dict := none, data := .seq #[best, best] c, slots := #[] } →
    (∀ v h' tk, P (argBest bt (n - 1)) v → (∀ b o, b ∉ S :: wr → h₀.get? b = some o → h'.get? b = some o) → R (.ok (.ret v)) { s with heap := h', toks := tk }) →
    codeAny (model prog w) A (.builtin "min.loop" ⟨[.ref I, .none, .ref S], []⟩) R s := by
  have hSw : S ∉ wr := fun h => hSf (W.sub _ h)
  have nm : (toString "min" ++ toString ".loop" : String) = "min.loop" := by decide
  intro k
  induction k with
  | zero =>
    intro j s best c hk hj hst hP hold hS hR
    obtain rfl : j + 1 = n := by omega
    refine codeAny_builtin PySem.F.entry_min_loop ?_
    rw [Around.under_plainId PySem.F.plain_min_loop _]
    refine wpAny_bind (wpAny_seqItems hS rfl ?_)
    refine wpAny_bind (wpAny_tryCatch (W.done s _ _ hst fun h' tk hk' => ?_))
    refine wpAny_bind (wpAny_updateSeq (hk' S _ hSw hS) rfl (wpAny_bind (wpAny_letGo (wpAny_pure ?_))))
    refine hR best _ tk hP fun b o hb e => ?_
    have hbS : S ≠ b := fun q => hb (q ▸ List.mem_cons_self)
    exact (Heap.get?_update_other _ _ hbS).trans (hk' b o (fun q => hb (List.mem_cons_of_mem _ q)) (hold b o hb e))
  | succ k ih =>
    intro j s best c hk hj hst hP hold hS hR
    refine codeAny_builtin PySem.F.entry_min_loop ?_
    rw [Around.under_plainId PySem.F.plain_min_loop _]
    refine wpAny_bind (wpAny_seqItems hS rfl ?_)
    refine wpAny_bind (wpAny_tryCatch (W.item (j + 1) s _ _ (by omega) hst fun v h' tk hPv hst' hk' => ?_))
    have hS' := hk' S _ hSw hS
    have hold' : ∀ b o, b ∉ S :: wr → h₀.get? b = some o → h'.get? b = some o := fun b o hb e => hk' b o (fun q => hb (List.mem_cons_of_mem _ q)) (hold b o hb e)
    show wpAny _ A.in1 (tryCatch (holding [v, v] (richCompare .Lt v best >>= _)) _ >>= _) _ _ _
    refine wpAny_bind (wpAny_tryCatch (wpAny_holding (wpAny_bind (hcmp (j + 1) (argBest bt j) v best _ _ _ hold' hPv hP ?_))))
    refine wpAny_bind (wpAny_holding (wpAny_truthy_bool (wpAny_bind (wpAny_letGo (wpAny_pure ?_)))))
    cases hb : bt (j + 1) (argBest bt j) with
    | true =>
      rw [if_pos rfl]
      refine wpAny_bind (wpAny_updateSeq hS' rfl (wpAny_bind (wpAny_letGo ?_)))
      rw [nm]
      have keep2 : ∀ b o, b ≠ S → h'.get? b = some o → (h'.update S (Obj.mapSeq fun _ => #[v, v])).get? b = some o := fun b o q e => (Heap.get?_update_other _ _ (Ne.symm q)).trans e
      refine wpAny_pure ⟨plainId_quiet PySem.F.plain_min_loop _, ih (j + 1) _ v _ (by omega) (by omega) (W.frame _ _ _ hst' fun b hbf o e => keep2 b o (fun q => hSf (q ▸ hbf)) e) (by unfold argBest; rw [hb]; exact hPv)
        (fun b o q e => keep2 b o (fun z => q (z ▸ List.mem_cons_self)) (hold' b o q e)) (Heap.get?_update_self _ hS' rfl) hR⟩
    | false =>
      rw [if_neg Bool.false_ne_true]
      refine wpAny_bind (wpAny_letGo ?_)
      rw [nm]
      exact wpAny_pure ⟨plainId_quiet PySem.F.plain_min_loop _, ih (j + 1) _ best c (by omega) (by omega) hst' (by unfold argBest; rw [hb]; exact hP) hold' hS' hR⟩
theorem least_first (W : Walks prog w A.in1 I fp wr n P St) (bt : Nat → Nat → Bool) (S : Addr) (hSf : S ∉ fp) (hn : 0 < n) {s : Shared} (hcmp : CmpIn prog w A.in1 s.heap (S :: wr) P bt) {c : Nat} (hst : St 0 s.heap)
    (hS : s.heap.get? S = some { cls := .type "list", dict := none, data := .seq #[] c, slots := #[] })
    (hR : ∀ v h' tk, P (argBest bt (n - 1)) v → (∀ b o, b ∉ S :: wr → s.heap.get? b = some o → h'.get? b = some o) → R (.ok (.ret v)) { s with heap := h', toks := tk }) :
    codeAny (model prog w) A (.builtin "min.loop" ⟨[.ref I, .none, .ref S], []⟩) R s := by
  have hSw : S ∉ wr := fun h => hSf (W.sub _ h)
  have nm : (toString "min" ++ toString ".loop" : String) = "min.loop" := by decide
  refine codeAny_builtin PySem.F.entry_min_loop ?_
  rw [Around.under_plainId PySem.F.plain_min_loop _]
  refine wpAny_bind (wpAny_seqItems hS rfl ?_)
  refine wpAny_bind (wpAny_tryCatch (W.item 0 s _ _ hn hst fun v h' tk hPv hst' hk' => ?_))
  have hS' := hk' S _ hSw hS
  show wpAny _ A.in1 (updateSeq S (fun _ => #[v, v]) >>= _) _ _ _
  refine wpAny_bind (wpAny_updateSeq hS' rfl ?_)
  rw [nm]
  have keep2 : ∀ b o, b ≠ S → h'.get? b = some o → (h'.update S (Obj.mapSeq fun _ => #[v, v])).get? b = some o := fun b o q e => (Heap.get?_update_other _ _ (Ne.symm q)).trans e
  refine wpAny_pure ⟨plainId_quiet PySem.F.plain_min_loop _, least_turns W bt S hSf hcmp _ 0 _ v _ rfl hn (W.frame _ _ _ hst' fun b hbf o e => keep2 b o (fun q => hSf (q ▸ hbf)) e) hPv
    (fun b o q e => keep2 b o (fun z => q (z ▸ List.mem_cons_self)) (hk' b o (fun z => q (List.mem_cons_of_mem _ z)) e)) (Heap.get?_update_self _ hS' rfl) hR⟩
end

noncomputable abbrev tupI (x : List Int) : D := .tup (intL x)
/-- the least of tuples of ints -/
noncomputable def leastAt (l : List (List Int)) : Nat := argBest (fun i j => lexlt (l.getD i []) (l.getD j [])) (l.length - 1)
noncomputable def leastL (l : List (List Int)) : List Int := l.getD (leastAt l) []
theorem tup_of {O : Addr → Prop} {h : Heap} {v : Value} {x : List Int} (r : Rep O h v (tupI x)) : ∃ a, ∃ xs : List (Int × Tok), v = .ref a ∧ IsTup h a (xs.map kifV).toArray ∧ xs.map (·.1) = x := by
  obtain ⟨a, vs, rfl, ha, ht, hr⟩ := r.inv
  obtain ⟨xs, rfl, e⟩ := ints_items hr
  exact ⟨a, xs, rfl, ht, e⟩
section
variable {Γ : G} {k : Nat}
theorem CallR.minT (S : Site Γ (k + 1)) {l : List (List Int)} {m : Nat} (hm : ∀ x ∈ l, x.length = m) (hne : 0 < l.length) : CallR Γ (.builtin "min") [.lst (l.map tupI)] (tupI (leastL l)) := by
  constructor; intro O s vs fr al r Q hQ
  obtain ⟨_, rfl, ra⟩ := r.one; obtain ⟨a, ws, rfl, ha, hl, hr⟩ := ra.inv
  have hlen : ws.length = l.length := by rw [hr.length, List.length_map]
  have hname : (toString "min" ++ toString ".loop" : String) = "min.loop" := by decide
  refine call_function_tree PySem.F.kind_min PySem.F.plain_min PySem.F.entry_min (PySem.F.args_min1 _) ?_
  show wpAny _ Γ.A.in1 (Builtin.Builtins.bindParams "min" ["key", "default"] 0 ⟨[], []⟩ >>= _) _ _ s
  refine wpAny_bind (wpAny_of_eq (show Builtin.Builtins.bindParams "min" ["key", "default"] 0 ⟨[], []⟩ = pure [none, none] from rfl) ?_)
  refine wpAny_bind (wpAny_pure (wpAny_bind (wpAny_pyIter_list hl ?_)))
  have hlt : a ≠ s.heap.objs.size := by obtain ⟨o, e, _⟩ := hl; exact Nat.ne_of_lt (Heap.lt_size e)
  have W := Walks.list (prog := Γ.prog) (w := Γ.w) (A := Γ.A.in1) S.handled s.heap.objs.size a hlt ws.toArray
  have up : s.heap.StaysIn (s.heap.push { cls := .type "list_iterator", data := .fields #[.ref a, .int 0 0] }) := keep_push
  refine wpAny_bind (wpAny_newObj_type ?_)
  rw [hname]
  have hI : ∀ b o, s.heap.get? b = some o → b ≠ s.heap.objs.size := fun b o e => Nat.ne_of_lt (Heap.lt_size e)
  have hS : ∀ b o, s.heap.get? b = some o → b ≠ (s.heap.push { cls := .type "list_iterator", data := .fields #[.ref a, .int 0 0] }).objs.size := fun b o e => Nat.ne_of_lt (Nat.lt_of_lt_of_le (Heap.lt_size e) (by rw [Heap.size_push]; omega))
  have old : ∀ b o, s.heap.get? b = some o → b ∉ (s.heap.push { cls := .type "list_iterator", data := .fields #[.ref a, .int 0 0] }).objs.size :: [s.heap.objs.size] := fun b o e q => by
    rcases List.mem_cons.mp q with q | q
    · exact hS b o e q
    · exact hI b o e (List.mem_singleton.mp q)
  refine wpAny_pure ⟨plainId_quiet PySem.F.plain_min_loop _, least_first W (fun i j => lexlt (l.getD i []) (l.getD j [])) _ (fun q => ?_) (by rw [List.size_toArray, hlen]; exact hne) ?_ (W.frame 0 _ _ ⟨⟨_, Heap.get?_push_size _ rfl, rfl, rfl⟩, hl.push _⟩ fun b _ o e => keep_push b o e) (Heap.get?_push_size _ rfl) fun v h' tk hP hk => ?_⟩
  · rcases List.mem_cons.mp q with q | q
    · have q2 : s.heap.objs.size + 1 = s.heap.objs.size := (Heap.size_push ..).symm.trans q
      omega
    · have q' := List.mem_singleton.mp q
      obtain ⟨o, e, _⟩ := hl
      exact hS a o e q'.symm
  · intro i j vi vj s' Q' E' hold hi hj hq
    have hi' : ws[i]? = some vi := by simpa using hi
    have hj' : ws[j]? = some vj := by simpa using hj
    obtain ⟨di, ei, ri⟩ := hr.getV hi'
    obtain ⟨dj, ej, rj⟩ := hr.getV hj'
    rw [List.getElem?_map, Option.map_eq_some_iff] at ei ej
    obtain ⟨xi, ei, rfl⟩ := ei
    obtain ⟨xj, ej, rfl⟩ := ej
    obtain ⟨ai, pi, rfl, ti, qi⟩ := tup_of ri
    obtain ⟨aj, pj, rfl, tj, qj⟩ := tup_of rj
    have li : pi.length = m := by rw [← hm xi (List.mem_of_getElem? ei), ← qi, List.length_map]
    have lj : pj.length = m := by rw [← hm xj (List.mem_of_getElem? ej), ← qj, List.length_map]
    have gi : l.getD i [] = xi := by rw [List.getD_eq_getElem?_getD, ei]; rfl
    have gj : l.getD j [] = xj := by rw [List.getD_eq_getElem?_getD, ej]; rfl
    have at' : ∀ c its, IsTup s.heap c its → IsTup s'.heap c its := fun c its z => by
      obtain ⟨o, e, z'⟩ := z
      exact ⟨o, hold c o (old c o e) (keep_push c o (keep_push c o e)), z'⟩
    refine rich_ltT (li.trans lj.symm) (at' _ _ ti) (at' _ _ tj) (by show Γ.A.units + 1 < cLine; have := S.units; omega) ?_
    rw [qi, qj, ← gi, ← gj]; exact hq
  · have hv : ws[argBest (fun i j => lexlt (l.getD i []) (l.getD j [])) (l.length - 1)]? = some v := by
      have : ws.toArray[argBest (fun i j => lexlt (l.getD i []) (l.getD j [])) (ws.toArray.size - 1)]? = some v := hP
      rw [List.size_toArray, hlen] at this
      simpa using this
    have g : s.heap.StaysIn h' := fun b o e => hk b o (old b o e) (keep_push b o (keep_push b o e))
    obtain ⟨d, ed, rd⟩ := hr.getV hv
    rw [List.getElem?_map, Option.map_eq_some_iff] at ed
    obtain ⟨x, ex, rfl⟩ := ed
    have : leastL l = x := by unfold leastL leastAt; rw [List.getD_eq_getElem?_getD, ex]; rfl
    exact hQ v h' tk g (this ▸ rd.grow g)
end

/-! part L15 -/
theorem RepL.rep {O : Addr → Prop} {h : Heap} {vs : List Value} {ds : List D} (r : RepL O h vs ds) : ∀ k : Nat, RepL O h (List.replicate k vs).flatten (List.replicate k ds).flatten
  | 0 => .nil
  | k + 1 => by
    rw [List.replicate_succ, List.replicate_succ, List.flatten_cons, List.flatten_cons]
    exact r.append (r.rep k)
theorem intsAre_of (xs : List (Int × Tok)) : IntsAre (xs.map (fun p => Value.int p.1 p.2)) (xs.map (·.1)) := by
  induction xs with
  | nil => exact .nil
  | cons a r ih => exact .cons _ _ ih
section
variable {Γ : G} {env : Env} {σ : Store} {k : Nat}
theorem EvN.mulL {e₁ e₂ : Expr} {pos : Pos} {ds : List D} {n : Int} (h₁ : Ev Γ env σ e₁ (.lst ds)) (h₂ : Ev Γ env σ e₂ (.int n)) (h0 : 0 ≤ n) (hn : n < 2 ^ 40) (hz : ds.length * n.toNat ≤ 2 ^ 24) :
    EvN Γ env σ (.BinOp e₁ .Mult e₂ pos) ((List.replicate n.toNat ds).flatten) := by
  constructor; intro O s ok Q hQ
  refine wpAny_BinOp (h₁.run O s ok _ fun v h' tk' g r => ?_)
  refine h₂.run O { s with heap := h', toks := tk' } (ok.grow g) _ fun v₂ h₂ tk₂ g₂ r₂ => ?_
  obtain ⟨_, rfl⟩ := r₂.inv
  obtain ⟨l, vs, rfl, ha, hl, hr⟩ := r.inv
  have hl2 : h₂.IsList l vs.toArray := IsList.at_ hl fun o e => g₂ l o e
  obtain ⟨⟨cls, d, data, sl⟩, ho, hcl, kk, hd⟩ := id hl2
  simp only at hcl hd
  subst hcl hd
  have hsz' : vs.toArray.size * n.toNat ≤ 2 ^ 24 := by rw [List.size_toArray, hr.length]; exact hz
  have p63 : (2 : Int) ^ 40 < 2 ^ 63 := by decide
  refine wpAny_binaryOp_repeat_ref (T := "list") (U := "int") (by decide) ⟨_, ho, rfl⟩ (fun s' => typeIs_int s' n _) noFill_list_mul PySem.F.fills_int_mul PySem.F.slot_int_rmul repeat_list PySem.F.slot_int_index.lookup
    (call_meets PySem.F.slot_int_rmul (typeIs_int _ n _) PySem.F.entry_int_rmul (PySem.F.args_int_rmul_2 _ _) (lm_int_rmul_list_any n _ l vs.toArray kk d sl)
      ⟨ho, rfl, ⟨_, ho, rfl⟩, call_meets PySem.F.slot_list_mul ⟨_, ho, rfl⟩ PySem.F.entry_list_mul (PySem.F.args_list_mul_2 _ _)
        (lm_list_mul_any l vs.toArray kk d sl n _ (by simp [Builtin.List.listFitsIndex]; omega) (by omega) (by simp [Builtin.List.listTooLong, sizeLine]; omega))
        ⟨ho, ?_⟩⟩)
  have e : List.foldl (fun x1 x2 => x1 ++ x2) #[] (List.replicate (if vs.toArray.isEmpty = true then 0 else n.toNat) vs.toArray) = ((List.replicate n.toNat vs).flatten).toArray := by
    rw [listMul_foldl_if]
  rw [e]
  have up : h₂.StaysIn (h₂.push { cls := .type "list", data := .seq ((List.replicate n.toNat vs).flatten).toArray }) := keep_push
  have g3 := StaysIn.trans g g₂
  refine hQ _ ((List.replicate n.toNat vs).flatten) _ _ (StaysIn.trans g3 up) (fresh_of g3) ⟨0, Heap.get?_push_size _ rfl⟩ (((hr.grow g₂).rep _).move fun b o e n => ⟨fun q => ?_, up b o e⟩)
  rcases q with q | q
  · exact n q
  · exact absurd (Heap.lt_size e) (by rw [q]; exact Nat.lt_irrefl _)
theorem Cmp.eqL (S : Site Γ (k + 1)) {a b : List Int} : Cmp Γ .Eq (.lst (intL a)) (.lst (intL b)) (decide (a = b)) := by
  constructor; intro O s v₁ v₂ _ _ r₁ r₂ Q hQ
  obtain ⟨l, vs, rfl, _, hl, hr⟩ := r₁.inv
  obtain ⟨l2, vs2, rfl, _, hl2, hr2⟩ := r₂.inv
  obtain ⟨xs, rfl, e1⟩ := ints_items hr
  obtain ⟨ys, rfl, e2⟩ := ints_items hr2
  refine eq_intsK hl (intsAre_of xs) hl2 (intsAre_of ys) (by have := S.units; omega) ?_
  rw [e1, e2]
  exact hQ s.heap s.toks (StaysIn.refl _)
theorem Cmp.neL (S : Site Γ (k + 1)) {a b : List Int} : Cmp Γ .NotEq (.lst (intL a)) (.lst (intL b)) (!decide (a = b)) := by
  constructor; intro O s v₁ v₂ _ _ r₁ r₂ Q hQ
  obtain ⟨l, vs, rfl, _, hl, hr⟩ := r₁.inv
  obtain ⟨l2, vs2, rfl, _, hl2, hr2⟩ := r₂.inv
  obtain ⟨xs, rfl, e1⟩ := ints_items hr
  obtain ⟨ys, rfl, e2⟩ := ints_items hr2
  refine ne_intsK hl (intsAre_of xs) hl2 (intsAre_of ys) (by have := S.units; omega) ?_
  rw [e1, e2]
  exact hQ s.heap s.toks (StaysIn.refl _)
/-- a pair of a text and an int is unlike itself: no -/
theorem Cmp.neP (S : Site Γ (k + 1)) {x : Str} {a : Int} (hx : PyData.strOk x = true) : Cmp Γ .NotEq (.tup [.str x, .int a]) (.tup [.str x, .int a]) false := by
  constructor; intro O s v₁ v₂ _ _ r₁ r₂ Q hQ
  have rd : ∀ {v : Value}, Rep O s.heap v (.tup [.str x, .int a]) → ∃ as, Reads s.heap v (.tuple [.str x, .int a]) as := fun {v} r => by
    obtain ⟨l, vs, rfl, _, hl, hr⟩ := r.inv
    obtain ⟨v1, v2, rfl, q1, q2⟩ := hr.two
    obtain ⟨_, rfl⟩ := q1.inv
    obtain ⟨_, rfl⟩ := q2.inv
    obtain ⟨o, ho, hc, n, hd⟩ := hl
    exact ⟨_, Reads.tuple ho hc hd (.cons (.str _ _) (.cons (.int _ _) .nil))⟩
  obtain ⟨as1, rd1⟩ := rd r₁
  obtain ⟨as2, rd2⟩ := rd r₂
  have sh : SeqAt.shaped (.tuple [.str x, .int a]) = true := by
    simp [SeqAt.shaped, PyData.canLay0, PyData.canLayAll0, PyData.depth, PyData.depthAll, hx]
  refine ne_dataH rd1 rd2 sh sh (by have := S.units; omega) ?_
  have : PyData.eqv (.tuple [.str x, .int a]) (.tuple [.str x, .int a]) = true := by
    simp [PyData.eqv, PyData.eqvAll]
  rw [this]
  exact hQ s.heap s.toks (StaysIn.refl _)
theorem Cmp.eqS {x y : Str} : Cmp Γ .Eq (.str x) (.str y) (x == y) := by
  constructor; intro O s v₁ v₂ _ _ r₁ r₂ Q hQ
  obtain ⟨_, rfl⟩ := r₁.inv; obtain ⟨_, rfl⟩ := r₂.inv
  exact eq_str (hQ s.heap s.toks (StaysIn.refl _))
theorem Cmp.neS {x y : Str} : Cmp Γ .NotEq (.str x) (.str y) (x != y) := by
  constructor; intro O s v₁ v₂ _ _ r₁ r₂ Q hQ
  obtain ⟨_, rfl⟩ := r₁.inv; obtain ⟨_, rfl⟩ := r₂.inv
  exact ne_str (hQ s.heap s.toks (StaysIn.refl _))
end

/-! part L16 -/
/-- an expression that changes a list of its own -/
structure EvX (Γ : G) (env : Env) (e : Expr) (d : D) (σ σ' : Store) : Prop where
  run : ∀ (O : Addr → Prop) (s : Shared), FS Γ env O σ s.heap → ∀ Q : Value → Shared → Prop,
    (∀ v h' tk', FS Γ env O σ' h' → Kp O s.heap O h' → Rep O h' v d → Q v { s with heap := h', toks := tk' }) → wpAny Γ.M Γ.A (eval e env) Q No s
structure EvXS (Γ : G) (env : Env) (pos : Pos) (es : List Expr) (ds : List D) (σ σ' : Store) : Prop where
  run : ∀ (O : Addr → Prop) (s : Shared), FS Γ env O σ s.heap → ∀ Q : List Value → Shared → Prop,
    (∀ vs h' tk', FS Γ env O σ' h' → Kp O s.heap O h' → RepL O h' vs ds → Q vs { s with heap := h', toks := tk' }) → wpAny Γ.M Γ.A (spliced (backTo pos (starEach es env))) Q No s
section
variable {Γ : G} {env : Env} {σ σ' σ₁ : Store} {R : Out → Prop}
theorem EvX.of_eq {e : Expr} {d d' : D} (h : EvX Γ env e d σ σ') (q : d = d') : EvX Γ env e d' σ σ' := q ▸ h
theorem EvXS.nil {pos : Pos} : EvXS Γ env pos [] [] σ σ := by
  constructor; intro O s X Q hQ
  exact spliced_none (hQ [] s.heap s.toks X Kp.refl .nil)
theorem EvXS.cons {pos : Pos} {e : Expr} {es : List Expr} {d : D} {ds : List D} (h₁ : EvX Γ env e d σ σ₁) (h₂ : EvXS Γ env pos es ds σ₁ σ') (hs : plainE e = true) : EvXS Γ env pos (e :: es) (d :: ds) σ σ' := by
  constructor; intro O s X Q hQ
  refine spliced_more (h₁.run O s X _ fun v h₁ tk₁ X₁ k₁ r₁ => ?_) (star_plain hs)
  exact h₂.run O { s with heap := h₁, toks := tk₁ } X₁ _ fun vs h₂ tk₂ X₂ k₂ r₂ => hQ _ h₂ tk₂ X₂ (k₁.trans k₂) (.cons _ _ _ _ (r₁.move k₂) r₂)
theorem erase_arr (vs : List Value) (k : Nat) : vs.toArray.eraseIdxIfInBounds k = (vs.eraseIdx k).toArray := by
  apply Array.toList_inj.mp
  simp [Array.eraseIdxIfInBounds]
  split
  · rfl
  · rename_i h
    rw [List.eraseIdx_of_length_le (by omega)]
theorem pop_any {x : Str} {ds : List D} {O : Addr → Prop} {s : Shared} {a : Addr} {vs : List Value} {k : Nat} {y : Value} {d : D} (X : FS Γ env O σ s.heap) (hx : σ x = some (.own ds)) (q : OwnAt Γ env O σ s.heap x a) (l : LstAt s.heap a vs) (r : RepL O s.heap vs ds)
    (hy : vs[k]? = some y) (hd : ds[k]? = some d) {Q : Value → Shared → Prop} (hQ : ∀ h' tk', FS Γ env O (upd σ x (.own (ds.eraseIdx k))) h' → Kp O s.heap O h' → Rep O h' y d → Q y { s with heap := h', toks := tk' }) :
    Q y { s with heap := s.heap.update a (Obj.mapSeq fun xs => xs.eraseIdxIfInBounds k) } := by
  obtain ⟨n, e⟩ := l
  have hs := Heap.SameBut.update (h := s.heap) a (Obj.mapSeq fun xs => xs.eraseIdxIfInBounds k)
  have u := PySem.IsL.update e (fun xs => xs.eraseIdxIfInBounds k)
  rw [erase_arr] at u
  have z := X.mut hx (v₀ := vs) q hs (vs' := vs.eraseIdx k) ⟨_, u⟩ r.erase
  obtain ⟨y', e1, e2⟩ := r.get hd
  rw [hy] at e1; cases e1
  exact hQ _ s.toks z.1 z.2 (e2.move z.2)
/-- x.pop(i) -/
theorem EvX.popAt {x : Str} {p q0 pos : Pos} {ei : Expr} {ds : List D} {i : Int} {d : D} (hx : σ x = some (.own ds)) (he : Ev Γ env σ ei (.int i)) (h0 : 0 ≤ i) (hd : ds[i.toNat]? = some d) (hz : ds.length ≤ sizeLine)
    (h1 : plainE ei = true) (hm : (q0.endLine == pos.line) = true) : EvX Γ env (.Call (.Attribute (.Name x p) (Str.ofString "pop") q0) [ei] [] pos) d σ (upd σ x (.own (ds.eraseIdx i.toNat))) := by
  constructor; intro O s X Q hQ
  obtain ⟨pl, hm⟩ := meth_plain (env := env) (o := .Name x p) (name := Str.ofString "pop") (apos := q0) (pos := pos) (args := [ei]) rfl (by simp [plainEs, h1]) rfl hm
  refine MethodCall_ (pl := pl) ?_ hm
  refine FS.ownName X hx fun a vs q l r => ?_
  obtain ⟨n, el⟩ := id l
  refine getMethod_builtin ⟨_, el, rfl⟩ PySem.F.plainAttrs_list PySem.F.slot_list_pop PySem.F.type_list_pop (fun b hb => by cases hb; exact ⟨_, el, rfl⟩) ?_
  refine callWith_method1 ?_ (star_plain h1) rfl
  refine spliced_more ?_ (star_plain h1)
  refine he.run O s X.ok _ fun v h₁ tk₁ g₁ r₁ => ?_
  refine spliced_none ?_
  obtain ⟨_, rfl⟩ := r₁.inv
  have X₁ := X.grow g₁
  have hlt : i.toNat < ds.length := by
    rcases Nat.lt_or_ge i.toNat ds.length with h | h
    · exact h
    · rw [List.getElem?_eq_none h] at hd; cases hd
  have hvl : vs.length = ds.length := r.length
  have p63 : (2 : Int) ^ 24 < 2 ^ 63 := by decide
  have hsl : sizeLine = 2 ^ 24 := rfl
  have hy : vs[i.toNat]? = some vs[i.toNat] := List.getElem?_eq_getElem (by omega)
  have hi64 : i < (ds.length : Int) := by omega
  have hds : ((ds.length : Nat) : Int) ≤ 2 ^ 24 := by rw [show (2 : Int) ^ 24 = ((2 ^ 24 : Nat) : Int) by decide]; exact Int.ofNat_le.mpr (hsl ▸ hz)
  refine call_meets PySem.F.slot_list_pop ⟨_, g₁ _ _ el, rfl⟩ PySem.F.entry_list_pop (PySem.F.args_list_pop_2 _ _) (PySem.MeetsSeq.list_pop_at a vs.toArray n i _ i.toNat vs[i.toNat] ?_ ?_ (by simpa using hy) (by rw [List.size_toArray, hvl]; exact hz)) ⟨g₁ _ _ el, ?_⟩
  · simp [Builtin.List.listFitsIndex]; omega
  · rw [List.size_toArray]; simp [seqIndex?]; omega
  · exact pop_any (s := { s with heap := h₁, toks := tk₁ }) X₁ hx (OwnAt.grow X q g₁) (l.at_ fun o e => g₁ a o e) (r.grow g₁) hy hd fun h' tk' X' k' r' => hQ _ h' tk' X' ((Kp.grow g₁).trans k') r'
/-- x.pop() -/
theorem EvX.popLast {x : Str} {p q0 pos : Pos} {ds : List D} {d : D} (hx : σ x = some (.own ds)) (hd : ds[ds.length - 1]? = some d) (hz : ds.length ≤ sizeLine)
    (hm : (q0.endLine == pos.line) = true) : EvX Γ env (.Call (.Attribute (.Name x p) (Str.ofString "pop") q0) [] [] pos) d σ (upd σ x (.own (ds.eraseIdx (ds.length - 1)))) := by
  constructor; intro O s X Q hQ
  obtain ⟨pl, hm⟩ := meth_plain (env := env) (o := .Name x p) (name := Str.ofString "pop") (apos := q0) (pos := pos) (args := []) rfl rfl rfl hm
  refine MethodCall_ (pl := pl) ?_ hm
  refine FS.ownName X hx fun a vs q l r => ?_
  obtain ⟨n, el⟩ := id l
  refine getMethod_builtin ⟨_, el, rfl⟩ PySem.F.plainAttrs_list PySem.F.slot_list_pop PySem.F.type_list_pop (fun b hb => by cases hb; exact ⟨_, el, rfl⟩) ?_
  refine callWith_method0 ?_
  have hvl : vs.length = ds.length := r.length
  obtain ⟨y, hy, _⟩ := r.get hd
  refine call_meets PySem.F.slot_list_pop ⟨_, el, rfl⟩ PySem.F.entry_list_pop (PySem.F.args_list_pop_1 _) (PySem.MeetsSeq.list_pop_last a vs.toArray n y (by simpa [hvl] using hy) (by rw [List.size_toArray, hvl]; exact hz)) ⟨el, ?_⟩
  have e : vs.toArray.size - 1 = ds.length - 1 := by rw [List.size_toArray, hvl]
  rw [e]
  exact pop_any X hx q l r hy hd fun h' tk' X' k' r' => hQ _ h' tk' X' k' r'
theorem Ex1.retX {es : List Expr} {p pos : Pos} {ds : List D} (he : EvXS Γ env p es ds σ σ') (hz : ds.length ≤ sizeLine) (hR : R (.ret (.lst ds))) : Ex1 Γ env σ (.Return (some (.List es p)) pos) R := by
  constructor; intro O s X
  refine wpAny_Return_some ?_
  refine List_ (he.run O s X _ fun vs h' tk' X' k r => ?_)
  have up : h'.StaysIn (h'.push { cls := .type "list", data := .seq vs.toArray }) := keep_push
  refine wpAny_newObj_type ?_ ?_
  · refine ⟨.ret (.lst ds), _, tk', O, hR, rfl, k.trans (Kp.grow up), X'.ok.fr.grow up, X.sub, .lst _ vs _ (X'.alive.fresh (Heap.get?_none_of_le (Nat.le_refl _))) ⟨_, Heap.get?_push_size _ rfl, rfl, 0, rfl⟩ (r.grow up)⟩
  · show vs.toArray.size ≤ sizeLine
    rw [List.size_toArray, r.length]; exact hz
end

/-! part L17 -/
noncomputable def sliceT (x : Str) (a b : Option Int) : Str := ⟨((x.cps.toList.drop (kms_lo a x.cps.size)).take (kms_hi b x.cps.size - kms_lo a x.cps.size)).toArray⟩
theorem str_pick (x : Str) (a b : Option Int) : (Builtin.Str.strSliceIndices a b 1 x.length).filterMap (x.cps[·]?) = (x.cps.toList.drop (kms_lo a x.cps.size)).take (kms_hi b x.cps.size - kms_lo a x.cps.size) := by
  have e : Builtin.Str.strSliceIndices a b 1 x.length = sliceRange (sliceBounds a b none x.cps.size).1 (sliceBounds a b none x.cps.size).2.1 1 := rfl
  rw [e, kms_bounds]
  simp only [sliceRange_one, pick_run]
theorem part_tok {v : Value} {o : Option Int} (h : IsPart v o) : ∃ p : Option (Int × Tok), v = partValue p ∧ p.map (·.1) = o := by
  cases h with
  | none => exact ⟨none, rfl, rfl⟩
  | int i t => exact ⟨some (i, t), rfl, rfl⟩
section
variable {Γ : G} {env : Env} {ρ σ : Store} {k : Nat}
theorem Ev.sliceS {eo : Expr} {lo hi : Option Expr} {a b : Option Int} {p pos : Pos} {x : Str} (ho : Ev Γ env ρ eo (.str x)) (h1 : EvP Γ env ρ lo a) (h2 : EvP Γ env ρ hi b) (hz : x.length ≤ sizeLine) :
    Ev Γ env ρ (.Subscript eo (.Slice lo hi none p) pos) (.str (sliceT x a b)) := by
  constructor; intro O s ok Q hQ
  refine Subscript_ (ho.run O s ok _ fun v k₁ t₁ g₁ r => ?_)
  obtain ⟨tx, rfl⟩ := r.inv
  have ok1 := ok.grow g₁
  refine wpAny_Slice (h1.run O { s with heap := k₁, toks := t₁ } ok1 _ fun v₁ k₂ t₂ g₂ p₁ => h2.run O { s with heap := k₂, toks := t₂ } (ok1.grow g₂) _ fun v₂ k₃ t₃ g₃ p₂ => evalPart_none_step ?_)
  dsimp only
  have g := StaysIn.trans g₁ (StaysIn.trans g₂ g₃)
  have up : k₃.StaysIn (k₃.push { cls := .type "slice", data := .fields #[v₁, v₂, .none] }) := keep_push
  obtain ⟨l, rfl, el⟩ := part_tok p₁
  obtain ⟨u, rfl, eu⟩ := part_tok p₂
  refine tail_any (s := { s with heap := k₃.push { cls := .type "slice", data := .fields #[partValue l, partValue u, .none] }, toks := t₃ }) (ops := [.ref k₃.objs.size, .str x tx]) (typeIs_str _ _ _) slot_str_getitem.lookup ?_ rfl
  refine wpAny_getItem_str_slice (l := l) (u := u) (st := none) ⟨_, Heap.get?_push_size _ rfl, rfl, rfl⟩ rfl ?_
  have e : (slicePicked x l u none).filterMap (x.cps[·]?) = (x.cps.toList.drop (kms_lo a x.cps.size)).take (kms_hi b x.cps.size - kms_lo a x.cps.size) := by
    rw [← str_pick]
    unfold slicePicked
    rw [el, eu]; rfl
  unfold sliceMade
  split
  · rename_i hc
    have hlen : (slicePicked x l u none).length = x.length := by simpa using hc
    have e2 : sliceT x a b = x := by
      unfold sliceT
      have e3 : slicePicked x l u none = (List.range (kms_hi b x.cps.size - kms_lo a x.cps.size)).map (kms_lo a x.cps.size + ·) := by
        unfold slicePicked
        rw [el, eu]
        show sliceRange (sliceBounds a b none x.cps.size).1 (sliceBounds a b none x.cps.size).2.1 1 = _
        rw [kms_bounds]; simp only [sliceRange_one]
      rw [e3, List.length_map, List.length_range] at hlen
      have hx : x.length = x.cps.size := rfl
      have h1 : kms_hi b x.cps.size ≤ x.cps.size := by
        unfold kms_hi
        split
        · exact Nat.le_refl _
        · split
          · omega
          · exact Nat.min_le_right _ _
      have h2 : kms_hi b x.cps.size - kms_lo a x.cps.size = x.cps.size := by omega
      rw [h2]
      rcases Nat.eq_zero_or_pos x.cps.size with h0 | h0
      · have h0' : x.cps.toList = [] := by
          apply List.eq_nil_of_length_eq_zero; simpa using h0
        have : x.cps = #[] := by simpa using h0'
        rw [h0']
        show (⟨((([] : List Nat).drop _).take _).toArray⟩ : Str) = x
        simp only [List.drop_nil, List.take_nil]
        cases x; simp_all
      · have h3 : kms_lo a x.cps.size = 0 := by omega
        rw [h3, List.drop_zero, List.take_of_length_le (by simp)]
    rw [e2] at hQ
    exact hQ _ _ _ (StaysIn.trans g up) (.str _ _)
  · rw [e]
    refine ⟨?_, hQ _ _ _ (StaysIn.trans g up) (.str _ _)⟩
    show ((x.cps.toList.drop _).take _).toArray.size ≤ sizeLine
    rw [List.size_toArray, List.length_take, List.length_drop]
    have : x.cps.toList.length = x.length := Array.length_toList
    omega
/-- a method of a text -/
theorem Ev.methS {eo e : Expr} {es : List Expr} {name : Str} {id : String} {q0 pos : Pos} {x : Str} {ds : List D} {d : D} (ho : Ev Γ env ρ eo (.str x)) (ha : EvS Γ env ρ pos (e :: es) ds) (hc : CallR Γ (.builtin id) (.str x :: ds) d)
    (slot : Slot "str" name id) (hty : typeOf (.builtin id) = pure (.type "method_descriptor")) (hn : noCall eo = true) (h1 : plainEs (e :: es) = true) (hl : (decide ((e :: es).length < 29)) = true) (hm : (q0.endLine == pos.line) = true) :
    Ev Γ env ρ (.Call (.Attribute eo name q0) (e :: es) [] pos) d := by
  constructor; intro O s ok Q hQ
  obtain ⟨pl, hm⟩ := meth_plain (env := env) (o := eo) (name := name) (apos := q0) (pos := pos) (args := e :: es) hn h1 hl hm
  refine MethodCall_ (pl := pl) ?_ hm
  refine ho.run O s ok _ fun v h' tk' g r => ?_
  obtain ⟨tx, rfl⟩ := r.inv
  refine getMethod_builtin (typeIs_str _ _ _) PySem.F.plainAttrs_str slot hty (fun b hb => by cases hb) ?_
  refine callWith_method1 ?_ (star_plain (Bool.and_eq_true_iff.mp h1).1) (any_plain (Bool.and_eq_true_iff.mp h1).2)
  refine ha.run O { s with heap := h', toks := tk' } (ok.grow g) _ fun vs h₂ tk₂ g₂ r₂ => ?_
  have ok2 := (ok.grow g).grow g₂
  exact hc.run O _ (.str x tx :: vs) ok2.fr ok2.alive (.cons _ _ _ _ (.str _ _) r₂) _ fun v h₃ tk₃ g₃ r₃ => hQ v h₃ tk₃ (StaysIn.trans g (StaysIn.trans g₂ g₃)) r₃
theorem CallR.find {x y : Str} : CallR Γ (.builtin "str.find") [.str x, .str y] (.int (PySem.Txt.find x y)) := by
  constructor; intro O s vs _ _ r Q hQ
  obtain ⟨_, _, rfl, a, b⟩ := r.two; obtain ⟨_, rfl⟩ := a.inv; obtain ⟨_, rfl⟩ := b.inv; exact SC.find (hQ _ s.heap _ (StaysIn.refl _) (.int _ _))
theorem CallR.find3 {x y : Str} {i : Int} : CallR Γ (.builtin "str.find") [.str x, .str y, .int i] (.int (PySem.Txt.find3 x y i)) := by
  constructor; intro O s vs _ _ r Q hQ
  obtain ⟨_, _, _, rfl, a, b, c⟩ := r.three; obtain ⟨_, rfl⟩ := a.inv; obtain ⟨_, rfl⟩ := b.inv; obtain ⟨_, rfl⟩ := c.inv; exact SC.find3 (hQ _ s.heap _ (StaysIn.refl _) (.int _ _))
theorem CallR.strI {a : Int} (h : a.natAbs.log2 < 1920) : CallR Γ (.type "str") [.int a] (.str (Str.ofString (toString a))) := by
  constructor; intro O s vs _ _ r Q hQ
  obtain ⟨_, rfl, a⟩ := r.one; obtain ⟨_, rfl⟩ := a.inv; exact P.str_of_int h (hQ _ s.heap _ (StaysIn.refl _) (.str _ _))
theorem CallR.intS {n : Int} (h0 : 0 ≤ n) (h1 : n < 10 ^ 10) : CallR Γ (.type "int") [.str (Str.ofString (toString n))] (.int n) := by
  constructor; intro O s vs _ _ r Q hQ
  obtain ⟨_, rfl, a⟩ := r.one; obtain ⟨_, rfl⟩ := a.inv; exact KIN.call_num h0 h1 (hQ _ s.heap _ (StaysIn.refl _) (.int _ _))
theorem CallR.lenS {x : Str} (h : x.length < 2 ^ 31) : CallR Γ (.builtin "len") [.str x] (.int x.length) := by
  constructor; intro O s vs _ _ r Q hQ
  obtain ⟨_, rfl, a⟩ := r.one; obtain ⟨_, rfl⟩ := a.inv; exact P.len_str (by omega) (hQ _ s.heap _ (StaysIn.refl _) (.int _ _))
noncomputable abbrev strL (xs : List Str) : List D := xs.map .str
theorem strs_rep {O : Addr → Prop} {h : Heap} : ∀ (l : List (Str × Tok)), RepL O h (strValues l) (strL (l.map (·.1)))
  | [] => .nil
  | _ :: l => .cons _ _ _ _ (.str _ _) (strs_rep l)
theorem CallR.split {x y : Str} (h1 : (decide (x.length < y.length) || decide (Builtin.Str.strKind x < Builtin.Str.strKind y)) = false) (hf : (Builtin.Str.occurrences x y 0 x.length (x.length + 1)).isEmpty = false) (hy : (y.length == 0) = false) (hz : x.length + 2 ≤ sizeLine) :
    CallR Γ (.builtin "str.split") [.str x, .str y] (.lst (strL (PySem.Txt.split x y))) := by
  constructor; intro O s vs _ al r Q hQ
  obtain ⟨_, _, rfl, a, b⟩ := r.two; obtain ⟨_, rfl⟩ := a.inv; obtain ⟨_, rfl⟩ := b.inv
  have hn : (Builtin.Str.partsBetween x (Builtin.Str.occurrences x y 0 x.length (x.length + 1)) y.length).length ≤ sizeLine := by
    have e1 := StrLaws.occ_length_le x y 0 x.length (x.length + 1)
    rw [length_partsBetween]; omega
  refine call_meets PySem.F.slot_str_split (typeIs_str _ _ _) PySem.F.entry_str_split (PySem.F.args_str_split_2 _ _) (meets_str_split_sep x y _ _ h1 hy hf (by omega) hn) ?_
  show Q _ { s with toks := _, heap := s.heap.push { cls := .type "list", data := .seq (strsFrom s.toks (Builtin.Str.partsBetween x (Builtin.Str.occurrences x y 0 x.length (x.length + 1)) y.length)).toArray } }
  rw [strsFrom_eq]
  have e : (numbered s.toks (Builtin.Str.partsBetween x (Builtin.Str.occurrences x y 0 x.length (x.length + 1)) y.length)).map (·.1) = PySem.Txt.split x y :=
    (numbered_texts _ _).trans ((if_neg (ne_true_of_eq_false h1)).trans (if_neg (ne_true_of_eq_false hf))).symm
  rw [← e] at hQ
  exact hQ _ _ _ keep_push (.lst _ (strValues (numbered s.toks _)) _ (al.fresh (Heap.get?_none_of_le (Nat.le_refl _))) ⟨_, Heap.get?_push_size _ rfl, rfl, 0, rfl⟩ (strs_rep _))
/-- 3 * text -/
theorem Bin.mul3S {c : Nat} : Bin Γ .Mult (.int 3) (.str ⟨#[c]⟩) (.str ⟨#[c, c, c]⟩) := by
  constructor; intro O s v₁ v₂ _ _ r₁ r₂ Q hQ
  obtain ⟨_, rfl⟩ := r₁.inv; obtain ⟨_, rfl⟩ := r₂.inv
  refine lm_binaryOp_repeat_right (T := "str") (U := "int") (by decide) (fun s' => typeIs_int s' 3 _) (typeIs_str _ _ _) PySem.F.fills_int_mul noFill_str_mul PySem.F.slot_int_mul lm_noRepeat_int repeat_str PySem.F.slot_int_index.lookup
    (call_gives PySem.F.slot_int_mul (typeIs_int s 3 _) PySem.F.entry_int_mul (PySem.F.args_int_mul_2 _ _) (AutoIntG3.int___mul___int_str_0 3 _ ⟨#[c]⟩ _)
      ⟨rfl, typeIs_str _ _ _, call_gives PySem.F.slot_str_mul (typeIs_str s ⟨#[c]⟩ _) PySem.F.entry_str_mul (PySem.F.args_str_mul_2 _ _) (gives_str_mul ⟨#[c]⟩ 3 _ _ (by decide) (fun _ _ => by show ¬ ((1 : Int) > (2 ^ 63 - 1) / 3); decide) (fun _ _ => by show Builtin.Str.tooLong (1 * 3) = false; decide)) ?_⟩)
  rw [if_neg (by decide), show ((3 : Int) == 1 || (⟨#[c]⟩ : Str).length == 0) = false from rfl, if_neg Bool.false_ne_true]
  exact ⟨by show 3 ≤ sizeLine; decide, hQ _ s.heap _ (StaysIn.refl _) (.str _ _)⟩
end

/-! part L18 -/
section
variable {prog : Program} {w : World} {A : Around} {E : Value → Shared → Prop} {s : Shared}
theorem turn_list {it l : Addr} {i : Nat} {items : Array Value} {x : Value} {Q : Value → Shared → Prop} (hit : s.heap.IsListIter it l i) (hl : s.heap.IsList l items) (hx : items[i]? = some x)
    (hQ : ∀ h', h'.IsListIter it l (i + 1) → Heap.SameBut it s.heap h' → Q x { s with heap := h' }) :
    wpAny (model prog w) A (Builtin.«list_iterator.__next__» ⟨[.ref it], []⟩) (fun fin s' => ∃ v, fin = .done (.ret v) ∧ Q v s') E s := by
  obtain ⟨o, ho, hc, hd⟩ := id hit
  obtain ⟨ol, hol, _, nl, hdl⟩ := hl
  wp_walk using wpAny_field ho hd (x := .ref l) rfl, wpAny_field ho hd (x := .int i 0) rfl, wpAny_seqItems hol hdl
  rw [Int.toNat_natCast, hx]
  refine wpAny_bind (wpAny_setField ho hd (Nat.lt_succ_self 1) ?_)
  refine wpAny_pure ⟨x, rfl, hQ _ ⟨_, Heap.get?_update_self _ ho ?_, ?_, ?_⟩ (Heap.SameBut.update ..)⟩
  · exact Obj.isFreed_of_fields (Obj.data_mapFields hd _)
  · rw [Obj.cls_mapFields, hc]
  · rw [Obj.data_mapFields hd]; rfl
theorem call_next_list {it l : Addr} {i : Nat} {items : Array Value} {x : Value} {Q : Value → Shared → Prop} (hit : s.heap.IsListIter it l i) (hl : s.heap.IsList l items) (hx : items[i]? = some x)
    (hQ : ∀ h', h'.IsListIter it l (i + 1) → Heap.SameBut it s.heap h' → Q x { s with heap := h' }) : wpAny (model prog w) A (call (.builtin "next") [.ref it]) Q E s := by
  have turn : wpAny (model prog w) A.in1 (call (.builtin "list_iterator.__next__") [.ref it]) Q E s := wpAny_call_entry slot_listiter_next hit.typeIs entry_listiter_next (turn_list hit hl hx hQ) (args_listiter_next _)
  refine call_function_entry (by decide +kernel) (by decide +kernel) kdk_entry_next (kdk_args_next _) ?_
  unfold Builtin.«next»
  refine wpAny_bind (m := someArgs "next" 1 2 _) (wpAny_of_eq (a := [Value.ref it]) rfl ?_)
  refine wpAny_bind (wpAny_specialOf (name := Str.ofString "__next__") hit.typeIs slot_listiter_next.lookup ?_)
  simp only [Option.isNone_some, Bool.false_eq_true, if_false]
  exact wpAny_bind (wpAny_callSpecial?_slot (name := Str.ofString "__next__") hit.typeIs slot_listiter_next (wpAny_mono turn (fun v s' q => wpAny_pure ⟨v, rfl, q⟩) fun _ _ e => e))
theorem call_iter_list {l : Addr} {items : Array Value} {Q : Value → Shared → Prop} (hl : s.heap.IsList l items)
    (hQ : Q (.ref s.heap.objs.size) { s with heap := s.heap.push { cls := .type "list_iterator", data := .fields #[.ref l, .int 0 0] } }) : wpAny (model prog w) A (call (.builtin "iter") [.ref l]) Q E s := by
  refine call_function_entry (by decide +kernel) (by decide +kernel) kdk_entry_iter (kdk_args_iter _) ?_
  unfold Builtin.«iter»
  refine wpAny_bind (m := someArgs "iter" 1 2 _) (wpAny_of_eq (a := [Value.ref l]) (by first | rfl | kernel_rfl!) ?_)
  refine wpAny_bind (wpAny_pyIter_list hl ?_)
  exact wpAny_pure ⟨_, rfl, hQ⟩
end
/-- statements of a body that steps a list's iterator I, made before the body was entered -/
structure ItOk (I l : Addr) (vs : List Value) (i : Nat) (O : Addr → Prop) (h : Heap) : Prop where
  nI : ¬ O I
  nl : ¬ O l
  it : h.IsListIter I l i
  lst : h.IsList l vs.toArray
theorem ItOk.kp {I l : Addr} {vs : List Value} {i : Nat} {O O' : Addr → Prop} {h h' : Heap} (x : ItOk I l vs i O h) (k : Kp O h O' h') : ItOk I l vs i O' h' := by
  obtain ⟨o, e, r⟩ := x.it
  obtain ⟨o2, e2, r2⟩ := x.lst
  exact ⟨(k I o e x.nI).1, (k l o2 e2 x.nl).1, ⟨o, (k I o e x.nI).2, r⟩, ⟨o2, (k l o2 e2 x.nl).2, r2⟩⟩
noncomputable def AfterI (Γ : G) (env : Env) (I l : Addr) (vs : List Value) (s : Shared) (R : Out → Nat → Prop) (fl : Flow) (s' : Shared) : Prop :=
  ∃ o j h' tk' O', R o j ∧ s' = { s with heap := h', toks := tk' } ∧ ItOk I l vs j O' h' ∧ AfterAt Γ env O' h' o fl
structure ExI (Γ : G) (env : Env) (I l : Addr) (vs : List Value) (σ : Store) (i : Nat) (b : List Stmt) (R : Out → Nat → Prop) : Prop where
  run : ∀ O s, FS Γ env O σ s.heap → ItOk I l vs i O s.heap → wpAny Γ.M Γ.A (execs b env) (AfterI Γ env I l vs s R) No s
section
variable {Γ : G} {env : Env} {I l : Addr} {vs : List Value} {σ : Store} {i : Nat} {R : Out → Nat → Prop}
theorem ExI.nil (h : R (.next σ) i) : ExI Γ env I l vs σ i [] R := ⟨fun O s X it => wpAny_execs_nil ⟨.next σ, i, s.heap, s.toks, O, h, rfl, it, X⟩⟩
theorem ExI.plain {st : Stmt} {rest : List Stmt} {σ' : Store} (h : Ex1 Γ env σ st (fun o => o = .next σ')) (h2 : ExI Γ env I l vs σ' i rest R) : ExI Γ env I l vs σ i (st :: rest) R := by
  constructor; intro O s X it
  refine wpAny_execs_cons (wpAny_mono (h.run O s X) (fun fl s' y => ?_) fun _ _ e => e)
  obtain ⟨o, h', tk', O', rfl, rfl, k, q⟩ := y
  obtain ⟨rfl, X'⟩ := q.inv
  exact h2.run O' { s with heap := h', toks := tk' } X' (it.kp k)
theorem ExI.ret {e : Expr} {d : D} {pos : Pos} {rest : List Stmt} (he : Ev Γ env σ e d) (hR : R (.ret d) i) : ExI Γ env I l vs σ i (.Return (some e) pos :: rest) R := by
  constructor; intro O s X it
  refine wpAny_execs_cons (wpAny_Return_some (he.run O s X.ok _ fun v h' tk' g r => ?_))
  exact ⟨.ret d, i, h', tk', O, hR, rfl, it.kp (Kp.grow g), X.ok.fr.grow g, X.sub, r⟩
/-- y = next(iterator) -/
theorem ExI.next {y x f : Str} {py px pf pos spos : Pos} {rest : List Stmt} {v : Value} {d : D} (hg : Glb Γ env f (.builtin "next")) (hx : σ x = some (.imm (.obj I))) (hb : Γ.base.get? I = none) (hv : vs[i]? = some v) (hd : ∀ O h, Rep O h v d) (hw : Wr env y)
    (h2 : ExI Γ env I l vs (upd σ y (.imm d)) (i + 1) rest R) : ExI Γ env I l vs σ i (.Assign [.Name y py] (.Call (.Name f pf) [.Name x px] [] pos) spos :: rest) R := by
  constructor; intro O s X it
  refine wpAny_execs_cons (wpAny_Assign_Name ?_ (swap_plain rfl))
  refine Call_ (hg.run pf _ _ s X.ok.fr ?_) rfl
  refine PyProof.Rows.callWith_builtin1 (spliced_more ?_ (star_plain rfl)) (star_plain rfl) rfl
  refine (Ev.name (pos := px) hx).run O s X.ok _ fun v₁ h₁ tk₁ g₁ r₁ => spliced_none ?_
  obtain rfl := r₁.inv
  have it1 := it.kp (Kp.grow g₁)
  have X1 := X.grow g₁
  refine call_next_list (s := { s with heap := h₁, toks := tk₁ }) it1.it it1.lst (by simpa using hv) fun h₂ hit₂ hs₂ => ?_
  have hne : l ≠ I := by
    rintro rfl
    obtain ⟨o, e, c, _⟩ := it1.it
    obtain ⟨o2, e2, c2, _⟩ := it1.lst
    rw [e] at e2; cases e2
    rw [c] at c2; exact absurd (Value.type.inj c2) (by decide)
  have X2 : FS Γ env O σ h₂ := X1.step (wr := [I]) (fun b o hb' e => (hs₂.2 b (fun q => hb' (List.mem_singleton.mpr q))).trans e) fun b hb' => by
    rw [List.mem_singleton.mp hb']
    refine ⟨it1.nI, hb, fun o e => ?_⟩
    obtain ⟨o', e', c, _⟩ := it1.it
    rw [e] at e'; cases e'
    exact notSeq c (by decide) (by decide)
  obtain ⟨ol, el, rl⟩ := it1.lst
  have it2 : ItOk I l vs (i + 1) O h₂ := ⟨it1.nI, it1.nl, hit₂, ol, (hs₂.2 l hne).trans el, rl⟩
  refine FS.store (s := { s with heap := h₂, toks := tk₁ }) (c := .imm d) X2 hw (hd _ _) fun h₃ tk₃ X₃ k₃ => ?_
  exact h2.run O { s with heap := h₃, toks := tk₃ } X₃ (it2.kp k₃)
theorem ExI.while {test : Expr} {body rest : List Stmt} {pos : Pos} (J : Nat → Store → Nat → Prop) (n : Nat) (h0 : J n σ i)
    (step : ∀ n σ' i', J n σ' i' → ∃ b, EvT Γ env σ' test b ∧ (b = true → ExI Γ env I l vs σ' i' body (fun o j => ∃ σ'', o = .next σ'' ∧ ∃ m, m < n ∧ J m σ'' j)) ∧ (b = false → ExI Γ env I l vs σ' i' rest R)) : ExI Γ env I l vs σ i (.While test body [] pos :: rest) R := by
  constructor; intro O s X it
  have key : wpAny Γ.M Γ.A (exec (.While test body [] pos) env) (fun fl s' => fl = .next ∧ ∃ σ' i' O' h' tk', s' = { s with heap := h', toks := tk' } ∧ FS Γ env O' σ' h' ∧ ItOk I l vs i' O' h' ∧ ExI Γ env I l vs σ' i' rest R) No s := by
    refine wpAny_While ?_
    refine codeAny_whileLoop (fun k s' => ∃ σ' i' O' h' tk', s' = { s with heap := h', toks := tk' } ∧ FS Γ env O' σ' h' ∧ ItOk I l vs i' O' h' ∧ J k σ' i') ?_ n ⟨σ, i, O, s.heap, s.toks, rfl, X, it, h0⟩
    rintro k s' ⟨σ', i', O', h', tk', rfl, X', it', hJ⟩
    obtain ⟨b, ht, hT, hF⟩ := step k σ' i' hJ
    refine wpAny_noRaise (ht.run O' { s with heap := h', toks := tk' } X'.ok _ fun h₁ tk₁ g₁ => ?_)
    cases b with
    | false =>
      rw [if_neg Bool.false_ne_true]
      exact wpAny_execs_nil ⟨rfl, σ', i', O', h₁, tk₁, rfl, X'.grow g₁, it'.kp (Kp.grow g₁), hF rfl⟩
    | true =>
      rw [if_pos rfl]
      refine wpAny_mono ((hT rfl).run O' { s with heap := h₁, toks := tk₁ } (X'.grow g₁) (it'.kp (Kp.grow g₁))) (fun fl s₃ z => ?_) fun _ _ e => e.elim
      obtain ⟨o, j, h₃, tk₃, O₃, ⟨σ'', rfl, m, hm, hJ'⟩, rfl, it₃, q⟩ := z
      obtain ⟨rfl, X₃⟩ := q.inv
      exact ⟨m, hm, σ'', j, O₃, h₃, tk₃, rfl, X₃, it₃, hJ'⟩
  refine wpAny_execs_cons (wpAny_mono key (fun fl s' y => ?_) fun _ _ e => e)
  obtain ⟨rfl, σ', i', O', h', tk', rfl, X', it', hE⟩ := y
  exact hE.run O' { s with heap := h', toks := tk' } X' it'
end
section
variable {Γ : G} {k : Nat}
/-- the entry of a def that is handed an iterator, made since the heap `h₀` -/
theorem Fn.enterI {name qual : Str} {params : Arguments} {body : List Stmt} {scope : Scope} {dV kV doc pm cdv ct oc : Value} {an od : Option Addr} {osl : Array (Option Value)} {f : Addr} {p : Str} {d : D} {I l : Addr} {vs : List Value}
    (ho : ∀ P, (hd.heap_39 P).lookup f = some ⟨oc, od, .func (fnOf name qual params body scope dV kV doc pm an cdv ct), osl⟩) (hcd : ∀ P, codeIn (hd.heap_39 P) cdv qual = true)
    (hbind : ∀ v : Value, bindArgs (fnOf name qual params body scope dV kV doc pm an cdv ct) ⟨[v], []⟩ = pure [(p, v)])
    (hkind : scope.names.lookup p = some .local) (hnc : ∀ n, cellsFrom n scope.names [] = []) (hdbg : (p == ("__debug__" : Str)) = false)
    (hco : scope.isCoroutine = false) (hgen : scope.isGenerator = false) (hk : scope.kind = .function)
    (S : Site Γ (k + 1))
    (h : ∀ Γ' : G, Site Γ' k → Γ'.base.get? I = none → ExI Γ' (envOfC qual scope Γ'.L f cdv) I l vs (fun x => if x = p then some (.imm (.obj I)) else none) 0 body (fun o _ => o = .ret d))
    {O : Addr → Prop} {s : Shared} {h₀ : Heap} (fr₀ : FrOk Γ h₀) (g₀ : h₀.StaysIn s.heap) (hz₀ : h₀.objs.size ≤ s.heap.objs.size) (hI : h₀.get? I = none) (al : Alive O s.heap) (it : ItOk I l vs 0 O s.heap)
    {Q : Value → Shared → Prop} (hQ : ∀ v h' tk', h₀.StaysIn h' → (∃ O', (∀ a, O a → O' a) ∧ Rep O' h' v d) → Q v { s with heap := h', toks := tk' }) : wpAny Γ.M Γ.A (call (.ref f) [.ref I]) Q No s := by
  obtain ⟨m, F⟩ := fr₀
  obtain ⟨env, outer, A₀, base₀, hA, hf, hke, B⟩ := S.frames
  obtain ⟨loose, mean, mg, mb, T⟩ := S.T
  refine wpAny_call ?_
  have B₁ : Below (A₀.deeper env) base₀ (env :: outer) h₀ := pushX B F hf hke
  have hroom : Γ.A.depth < recursionLimit := by have := S.depth; omega
  have Fs : ∀ b o, Γ.base.get? b = some o → s.heap.get? b = some o := fun b o e => g₀ b o (F.keep b o e)
  refine codeAny_call_function (fd := fnX name qual params body scope [] dV kV doc pm an cdv ct) (body := body) hroom ((S.X.keeps Fs) _ _ (ho _)) rfl hco hgen rfl (codeRec_of (S.X.keeps Fs) (hcd _)) ?_
  rw [show bindArgs (fnX name qual params body scope [] dV kV doc pm an cdv ct) ⟨[.ref I], []⟩ = pure [(p, .ref I)] from hbind _]
  refine wpAny_pure ?_
  refine wpAny_newFunctionEnv_cells hk (fun y hy => by rw [List.mem_singleton.mp hy]; exact .inl hkind) fun env' he s' x => ?_
  subst he
  refine ⟨(T.nolimit.keeps Fs).keeps x.toInCall.keep, codeAny_func ?_⟩
  obtain ⟨h₁, tk, rfl, hk₁⟩ := x.done
  let Γ' : G := { prog := Γ.prog, w := Γ.w, A := Γ.A.deeper (envOfC qual scope s.heap.objs.size f cdv), base := h₀, L := s.heap.objs.size, O₀ := O }
  have S' : Site Γ' k := {
    handled := S.handled
    frames := ⟨envOfC qual scope s.heap.objs.size f cdv, env :: outer, A₀.deeper env, base₀, Around.frames_deeper hA, rfl, hk, B₁⟩
    X := S.X.keeps F.keep
    T := ⟨loose, mean, mg, mb, T.keeps F.keep⟩
    depth := by show Γ.A.depth + 1 + 10 * k < recursionLimit; have := S.depth; omega
    units := by show Γ.A.units + 3 + 100 * k < cLine; have := S.units; omega }
  have hLk : h₁.Ns s.heap.objs.size (bindL (envOfC qual scope s.heap.objs.size f cdv).kindOf [(p, .ref I)] fun _ => none) := x.toInCall.ns
  have hcs : (envOfC qual scope s.heap.objs.size f cdv).cells = [] := hnc _
  have nocell : ∀ y c, (envOfC qual scope s.heap.objs.size f cdv).cells.lookup y = some c → False := fun y c e => by rw [hcs] at e; cases e
  have grow : ∀ a o, s.heap.get? a = some o → ¬ O a → ¬ (O a ∨ a = s.heap.objs.size) ∧ h₁.get? a = some o := fun a o e n => ⟨fun q => q.elim n fun q => absurd (Heap.lt_size e) (by rw [q]; exact Nat.lt_irrefl _), hk₁ a o e⟩
  have X' : FS Γ' (envOfC qual scope s.heap.objs.size f cdv) (fun a => O a ∨ a = s.heap.objs.size) (fun x => if x = p then some (.imm (.obj I)) else none) h₁ := by
    refine ⟨rfl, hk, ?_, fun a ha => .inl ha, _, fun _ => none, ⟨hLk, fun b o e => hk₁ b o (g₀ b o e), hz₀⟩, .inr rfl, fun y c e => (nocell y c e).elim, fun y y' c e _ => (nocell y c e).elim, fun z c e => ?_, fun z c e => ?_, fun z z' d1 d2 a e => ?_⟩
    · rintro a (ha | rfl)
      · obtain ⟨o, e⟩ := al a ha
        exact ⟨o, hk₁ _ _ e⟩
      · obtain ⟨o, _, _, e, _⟩ := hLk
        exact ⟨o, e⟩
    · by_cases q : z = p
      · subst q
        exact ⟨.inl ⟨hkind, by rw [hcs]; rfl⟩, hdbg⟩
      · simp [q] at e
    · by_cases q : z = p
      · subst q
        simp at e
        subst e
        refine ⟨.ref I, ?_, .obj I⟩
        unfold valOf
        rw [hcs]
        show bindL _ _ _ z = _
        rw [bindL_local (show (envOfC qual scope s.heap.objs.size f cdv).kindOf z = some .local from hkind)]
        simp [lastV]
      · simp [q] at e
    · by_cases q : z = p
      · simp [q] at e
      · simp [q] at e
  have it' : ItOk I l vs 0 (fun a => O a ∨ a = s.heap.objs.size) h₁ := it.kp grow
  refine wpAny_mono ((h Γ' S' hI).run _ { s with heap := h₁, toks := tk } X' it') (fun fl s' z => ?_) fun _ _ e => e.elim
  obtain ⟨o, j, h₂, tk₂, O₂, rfl, rfl, it₂, q⟩ := z
  obtain ⟨v, rfl, ⟨m', F'⟩, sub, r⟩ := q.inv
  exact hQ v h₂ tk₂ (fun a o e => F'.keep a o e) ⟨O₂, sub, r⟩
end

/-! part F0 -/
theorem n_abs (P : Params) : nsIn (hd.heap_39 P) mainGlobals (Str.ofString "abs") = some none := by k_is
theorem n_max (P : Params) : nsIn (hd.heap_39 P) mainGlobals (Str.ofString "max") = some none := by k_is
theorem n_min (P : Params) : nsIn (hd.heap_39 P) mainGlobals (Str.ofString "min") = some none := by k_is
section
variable {Γ : G} {env : Env} {k : Nat}
theorem b_abs (S : Site Γ k) (eg : EnvG env) (hx : env.kindOf (Str.ofString "abs") = some .globalImplicit) : Glb Γ env (Str.ofString "abs") (.builtin "abs") := Glb.builtin S eg n_abs (by boot_fast) (by decide) hx (by decide)
theorem b_max (S : Site Γ k) (eg : EnvG env) (hx : env.kindOf (Str.ofString "max") = some .globalImplicit) : Glb Γ env (Str.ofString "max") (.builtin "max") := Glb.builtin S eg n_max (by boot_fast) (by decide) hx (by decide)
theorem b_min (S : Site Γ k) (eg : EnvG env) (hx : env.kindOf (Str.ofString "min") = some .globalImplicit) : Glb Γ env (Str.ofString "min") (.builtin "min") := Glb.builtin S eg n_min (by boot_fast) (by decide) hx (by decide)
end

section
variable {Γ : G} {env : Env} {σ : Store} {R : Out → Prop}
theorem upd_eq {x : Str} {c : SV} : upd σ x c x = some c := if_pos rfl
theorem upd_ne {x y : Str} {c : SV} {r : Option SV} (h : decide (y = x) = false) (e : σ y = r) : upd σ x c y = r := (if_neg (of_decide_eq_false h)).trans e
theorem seqR_next {rest : List Stmt} (h : Ex Γ env σ rest R) : seqR Γ env rest R (.next σ) := h
theorem seqR_ret {rest : List Stmt} {d : D} (h : R (.ret d)) : seqR Γ env rest R (.ret d) := h
theorem seqR_brk {rest : List Stmt} (h : R (.brk σ)) : seqR Γ env rest R (.brk σ) := h
theorem loopR_next {J : Nat → Store → Prop} {i : Nat} (h : J (i + 1) σ) : loopR J i R (.next σ) := h
theorem loopR_ret {J : Nat → Store → Prop} {i : Nat} {d : D} (h : R (.ret d)) : loopR J i R (.ret d) := h
theorem whileR_next {J : Nat → Store → Prop} {n m : Nat} (hm : m < n) (h : J m σ) : whileR J n R (.next σ) := ⟨m, hm, h⟩
theorem whileR_brk {J : Nat → Store → Prop} {n : Nat} (h : R (.next σ)) : whileR J n R (.brk σ) := h
theorem Wr.loc {x : Str} (h1 : env.kindOf x = some .local) (h2 : env.cells.lookup x = none) (h3 : (x == ("__debug__" : Str)) = false) : Wr env x := ⟨.inl ⟨h1, h2⟩, h3⟩
theorem Wr.cell {x : Str} (h1 : env.kindOf x = some .cell) (h2 : (env.cells.lookup x).isSome = true) (h3 : (x == ("__debug__" : Str)) = false) : Wr env x := ⟨.inr ⟨h1, Option.isSome_iff_exists.mp h2⟩, h3⟩
theorem fdiv_small {a b : Int} (h : b.natAbs < 2 ^ 60) : Builtin.divisionGoesByPylong a b = false := by
  unfold Builtin.divisionGoesByPylong
  have : b.natAbs.log2 < 60 := by
    by_cases h0 : b.natAbs = 0
    · rw [h0]; decide
    · exact (Nat.log2_lt h0).mpr h
  have h2 : decide ((if (b == 0) = true then 0 else b.natAbs.log2 / 30 + 1) > 300) = false := by
    apply decide_eq_false
    split <;> omega
  show (decide ((if (b == 0) = true then 0 else b.natAbs.log2 / 30 + 1) > 300) && _) = false
  rw [h2]; rfl
theorem bits_small {a : Int} (h : a.natAbs < 2 ^ 64) : Builtin.Int.intBits a ≤ 64 := by
  unfold Builtin.Int.intBits
  split
  · exact Nat.zero_le _
  · rename_i q
    have h0 : a.natAbs ≠ 0 := fun e => q (by rw [Int.natAbs_eq_zero.mp e]; rfl)
    have := (Nat.log2_lt h0).mpr h
    omega
theorem fmod4_bits (a : Int) : Builtin.Int.intBits (a.fmod 4 + 1) ≤ 64 := by
  apply bits_small
  have h1 : 0 ≤ a.fmod 4 := Int.fmod_nonneg_of_pos a (by decide)
  have h2 : a.fmod 4 < 4 := Int.fmod_lt_of_pos a (by decide)
  have : (2:Nat) ^ 64 = 18446744073709551616 := by decide
  omega
theorem EnvG.mk' (h1 : env.globals = mainGlobals) (h2 : env.builtins = builtinsNs) (h3 : env.scope.kind = .function) : EnvG env := ⟨h1, h2, h3⟩
end

/-! part F1 -/
theorem n_range (P : Params) : nsIn (hd.heap_39 P) mainGlobals (Str.ofString "range") = some none := by k_is
theorem b_range {Γ : G} {env : Env} {k : Nat} (S : Site Γ k) (eg : EnvG env) (hx : env.kindOf (Str.ofString "range") = some .globalImplicit) : Glb Γ env (Str.ofString "range") (.type "range") := Glb.builtin S eg n_range (by boot_fast) (by decide) hx (by decide)
theorem n_len (P : Params) : nsIn (hd.heap_39 P) mainGlobals (Str.ofString "len") = some none := by k_is
theorem b_len {Γ : G} {env : Env} {k : Nat} (S : Site Γ k) (eg : EnvG env) (hx : env.kindOf (Str.ofString "len") = some .globalImplicit) : Glb Γ env (Str.ofString "len") (.builtin "len") := Glb.builtin S eg n_len (by boot_fast) (by decide) hx (by decide)
theorem n_all (P : Params) : nsIn (hd.heap_39 P) mainGlobals (Str.ofString "all") = some none := by k_is
theorem b_all {Γ : G} {env : Env} {k : Nat} (S : Site Γ k) (eg : EnvG env) (hx : env.kindOf (Str.ofString "all") = some .globalImplicit) : Glb Γ env (Str.ofString "all") (.builtin "all") := Glb.builtin S eg n_all (by boot_fast) (by decide) hx (by decide)
theorem n_sum (P : Params) : nsIn (hd.heap_39 P) mainGlobals (Str.ofString "sum") = some none := by k_is
theorem b_sum {Γ : G} {env : Env} {k : Nat} (S : Site Γ k) (eg : EnvG env) (hx : env.kindOf (Str.ofString "sum") = some .globalImplicit) : Glb Γ env (Str.ofString "sum") (.builtin "sum") := Glb.builtin S eg n_sum (by boot_fast) (by decide) hx (by decide)
theorem n_round (P : Params) : nsIn (hd.heap_39 P) mainGlobals (Str.ofString "round") = some none := by k_is
theorem b_round {Γ : G} {env : Env} {k : Nat} (S : Site Γ k) (eg : EnvG env) (hx : env.kindOf (Str.ofString "round") = some .globalImplicit) : Glb Γ env (Str.ofString "round") (.builtin "round") := Glb.builtin S eg n_round (by boot_fast) (by decide) hx (by decide)
theorem pow2_ok {n : Int} (h : n ≤ 2 ^ 20) : ((Builtin.Int.intBits 2 : Nat) : Int) * n ≤ 2 ^ 27 := by
  have : Builtin.Int.intBits 2 = 2 := by decide
  rw [this]
  have : (2 : Int) ^ 27 = 128 * 2 ^ 20 := by decide
  omega
theorem intL_getD {ns : List Int} {i : Nat} (h : i < ns.length) : (intL ns)[i]? = some (.int (ns.getD i 0)) := by
  rw [List.getElem?_map, List.getD_eq_getElem?_getD, List.getElem?_eq_getElem h]; rfl
theorem Ev.lenName {Γ : G} {env : Env} {ρ : Store} {k : Nat} (S : Site Γ k) (eg : EnvG env) (hk : env.kindOf (Str.ofString "len") = some .globalImplicit) {y : Str} {p0 p q : Pos} {ds : List D} {n : Nat} (hr : EvL Γ env ρ (.Name y p) ds) (hn : ds.length = n) (h : n < 2 ^ 31) :
    Ev Γ env ρ (.Call (.Name (Str.ofString "len") p0) [.Name y p] [] q) (.int n) := by
  subst hn
  exact Ev.callLen (b_len S eg hk) hr (by omega) rfl
theorem pow_cast (n : Nat) : ((2 : Int) ^ n) = ((2 ^ n : Nat) : Int) := by push_cast; rfl

/-! part W1 -/
noncomputable def wayF (n c : Int) : Int := if 3 * n.fmod 8 - c < 0 then -(3 * n.fmod 8 - c) else 3 * n.fmod 8 - c
noncomputable def ptF (n c : Int) : Int :=
  if (if 8 - (if 24 - wayF n c < wayF n c then 24 - wayF n c else wayF n c) < 4 then 8 - (if 24 - wayF n c < wayF n c then 24 - wayF n c else wayF n c) else 4) > 0
  then (if 8 - (if 24 - wayF n c < wayF n c then 24 - wayF n c else wayF n c) < 4 then 8 - (if 24 - wayF n c < wayF n c then 24 - wayF n c else wayF n c) else 4) else 0
noncomputable def partsF (n : Int) : Nat → Int
  | 0 => 0
  | 1 => 0 + 30 * ptF n 0
  | 2 => 0 + 30 * ptF n 0 + 59 * ptF n 8
  | _ => 0 + 30 * ptF n 0 + 59 * ptF n 8 + 11 * ptF n 16
noncomputable def weightF (n : Int) : Int := partsF n 3 * ((n.fdiv 8).fmod 4 + 1)
set_option maxHeartbeats 400000 in
theorem weight_fn {Γ : G} {k : Nat} (S : Site Γ (k + 1)) (n : Int) : CallR Γ (.ref 119) [.int n] (.int (weightF n)) := by
  k_dflt (refine' Fn.enter (ps := [Str.ofString "number"]) ?ho ?hcd ?hb ?hl ?hk ?c1 ?c2 ?c3 S ?body)
  case ho => intro P; k_is
  case hcd => intro P; k_is
  case hb => exact vs1 rfl fun _ => rfl
  case hl => rfl
  case hk => exact ⟨⟨by first | exact .inl ⟨by kernel_rfl!, fun n => by kernel_rfl!⟩ | exact .inr ⟨by kernel_rfl!, fun n => by kernel_rfl!⟩, by decide⟩, trivial⟩
  case c1 => rfl
  case c2 => rfl
  case c3 => rfl
  intro Γ' S' h0
  have p1 : parS [Str.ofString "number"] [D.int n] (Str.ofString "number") = some (.imm (.int n)) := by kernel_rfl!
  generalize parS [Str.ofString "number"] [D.int n] = σ at p1
  refine Ex.cons (Ex1.assign Ev.int (by (first | (refine Wr.loc ?_ ?_ ?_ <;> kernel_rfl!) | (refine Wr.cell ?_ ?_ ?_ <;> kernel_rfl!))) (seqR_next ?_) (by kernel_rfl!))
  refine Ex.cons (Ex1.loop (items := [.tup [.int 0, .int 30], .tup [.int 8, .int 59], .tup [.int 16, .int 11]]) (fun i σ => σ (Str.ofString "number") = some (.imm (.int n)) ∧ σ (Str.ofString "parts") = some (.imm (.int (partsF n i)))) (Src.tup S' ?src) ⟨by (repeat' (with_reducible first | exact upd_eq | assumption | refine upd_ne (by kernel_rfl!) ?_)), upd_eq⟩ ?step ?done (by kernel_rfl!))
  case src => (repeat' (with_reducible first | exact Ev.int | exact Ev.flt | exact Ev.str | exact Ev.name (by (repeat' (with_reducible first | exact upd_eq | assumption | refine upd_ne (by kernel_rfl!) ?_))) | apply Ev.bin | exact Bin.add | exact Bin.addF | exact Bin.subF | exact Bin.mulF | exact Bin.sub | exact Bin.mod (by k_dflt (first | with_reducible assumption | decide | omega)) | exact Bin.fdiv (by k_dflt (first | with_reducible assumption | decide | omega)) (fdiv_small (by k_dflt (first | with_reducible assumption | decide | omega))) | exact Bin.mul (IntMulOk.of_left (by k_dflt first | with_reducible assumption | decide)) | exact Bin.mul (IntMulOk.of_right (by k_dflt first | with_reducible assumption | decide)) | apply Ev.cmp (hm := by kernel_rfl!) | apply EvT.cmp (hm := by kernel_rfl!) | exact Cmp.lt | exact Cmp.gt | exact Cmp.le | exact Cmp.ge | exact Cmp.eq | exact Cmp.ne | exact EvS.nil | apply EvS.cons (hs := by kernel_rfl!) | refine Ev.tup ?_ (by k_dflt exact Nat.le_of_ble_eq_true rfl) | apply Ev.callB (b_abs (by assumption) (by (refine EnvG.mk' ?_ ?_ ?_ <;> kernel_rfl!)) (by kernel_rfl!)) (h1 := by kernel_rfl!) | apply Ev.callB (b_max (by assumption) (by (refine EnvG.mk' ?_ ?_ ?_ <;> kernel_rfl!)) (by kernel_rfl!)) (h1 := by kernel_rfl!) | apply Ev.callB (b_min (by assumption) (by (refine EnvG.mk' ?_ ?_ ?_ <;> kernel_rfl!)) (by kernel_rfl!)) (h1 := by kernel_rfl!) | exact CallR.abs | exact CallR.max2 (by assumption) | exact CallR.min2 (by assumption)))
  case done =>
    rintro σ' ⟨h1, h2⟩
    replace h2 : σ' (Str.ofString "parts") = some (.imm (.int (partsF n 3))) := h2
    refine seqR_next (Ex.cons (Ex1.ret (d := .int (weightF n)) ?_ ?_))
    · unfold weightF
      with_reducible refine Ev.bin ?_ ?_ (Bin.mul (IntMulOk.of_right (fmod4_bits _)))
      · (repeat' (with_reducible first | exact Ev.int | exact Ev.flt | exact Ev.str | exact Ev.name (by (repeat' (with_reducible first | exact upd_eq | assumption | refine upd_ne (by kernel_rfl!) ?_))) | apply Ev.bin | exact Bin.add | exact Bin.addF | exact Bin.subF | exact Bin.mulF | exact Bin.sub | exact Bin.mod (by k_dflt (first | with_reducible assumption | decide | omega)) | exact Bin.fdiv (by k_dflt (first | with_reducible assumption | decide | omega)) (fdiv_small (by k_dflt (first | with_reducible assumption | decide | omega))) | exact Bin.mul (IntMulOk.of_left (by k_dflt first | with_reducible assumption | decide)) | exact Bin.mul (IntMulOk.of_right (by k_dflt first | with_reducible assumption | decide)) | apply Ev.cmp (hm := by kernel_rfl!) | apply EvT.cmp (hm := by kernel_rfl!) | exact Cmp.lt | exact Cmp.gt | exact Cmp.le | exact Cmp.ge | exact Cmp.eq | exact Cmp.ne | exact EvS.nil | apply EvS.cons (hs := by kernel_rfl!) | refine Ev.tup ?_ (by k_dflt exact Nat.le_of_ble_eq_true rfl) | apply Ev.callB (b_abs (by assumption) (by (refine EnvG.mk' ?_ ?_ ?_ <;> kernel_rfl!)) (by kernel_rfl!)) (h1 := by kernel_rfl!) | apply Ev.callB (b_max (by assumption) (by (refine EnvG.mk' ?_ ?_ ?_ <;> kernel_rfl!)) (by kernel_rfl!)) (h1 := by kernel_rfl!) | apply Ev.callB (b_min (by assumption) (by (refine EnvG.mk' ?_ ?_ ?_ <;> kernel_rfl!)) (by kernel_rfl!)) (h1 := by kernel_rfl!) | exact CallR.abs | exact CallR.max2 (by assumption) | exact CallR.min2 (by assumption)))
      · (repeat' (with_reducible first | exact Ev.int | exact Ev.flt | exact Ev.str | exact Ev.name (by (repeat' (with_reducible first | exact upd_eq | assumption | refine upd_ne (by kernel_rfl!) ?_))) | apply Ev.bin | exact Bin.add | exact Bin.addF | exact Bin.subF | exact Bin.mulF | exact Bin.sub | exact Bin.mod (by k_dflt (first | with_reducible assumption | decide | omega)) | exact Bin.fdiv (by k_dflt (first | with_reducible assumption | decide | omega)) (fdiv_small (by k_dflt (first | with_reducible assumption | decide | omega))) | exact Bin.mul (IntMulOk.of_left (by k_dflt first | with_reducible assumption | decide)) | exact Bin.mul (IntMulOk.of_right (by k_dflt first | with_reducible assumption | decide)) | apply Ev.cmp (hm := by kernel_rfl!) | apply EvT.cmp (hm := by kernel_rfl!) | exact Cmp.lt | exact Cmp.gt | exact Cmp.le | exact Cmp.ge | exact Cmp.eq | exact Cmp.ne | exact EvS.nil | apply EvS.cons (hs := by kernel_rfl!) | refine Ev.tup ?_ (by k_dflt exact Nat.le_of_ble_eq_true rfl) | apply Ev.callB (b_abs (by assumption) (by (refine EnvG.mk' ?_ ?_ ?_ <;> kernel_rfl!)) (by kernel_rfl!)) (h1 := by kernel_rfl!) | apply Ev.callB (b_max (by assumption) (by (refine EnvG.mk' ?_ ?_ ?_ <;> kernel_rfl!)) (by kernel_rfl!)) (h1 := by kernel_rfl!) | apply Ev.callB (b_min (by assumption) (by (refine EnvG.mk' ?_ ?_ ?_ <;> kernel_rfl!)) (by kernel_rfl!)) (h1 := by kernel_rfl!) | exact CallR.abs | exact CallR.max2 (by assumption) | exact CallR.min2 (by assumption)))
    · exact seqR_ret rfl
  case step =>
    rintro i d σ' hd ⟨h1, h2⟩
    have hi : i = 0 ∧ d = .tup [.int 0, .int 30] ∨ i = 1 ∧ d = .tup [.int 8, .int 59] ∨ i = 2 ∧ d = .tup [.int 16, .int 11] := by
      match i, hd with
      | 0, hd => cases hd; exact .inl ⟨rfl, rfl⟩
      | 1, hd => cases hd; exact .inr (.inl ⟨rfl, rfl⟩)
      | 2, hd => cases hd; exact .inr (.inr ⟨rfl, rfl⟩)
      | i + 3, hd => cases hd
    obtain ⟨c, w, rfl, hp, hw⟩ : ∃ c w, d = .tup [.int c, .int w] ∧ partsF n (i + 1) = partsF n i + w * ptF n c ∧ Builtin.Int.intBits w ≤ 64 := by
      rcases hi with ⟨rfl, rfl⟩ | ⟨rfl, rfl⟩ | ⟨rfl, rfl⟩ <;> exact ⟨_, _, rfl, rfl, by decide⟩
    clear hi hd
    refine ⟨_, Asg.tup S' (AsgL.cons (Asg.name (by (first | (refine Wr.loc ?_ ?_ ?_ <;> kernel_rfl!) | (refine Wr.cell ?_ ?_ ?_ <;> kernel_rfl!)))) (AsgL.cons (Asg.name (by (first | (refine Wr.loc ?_ ?_ ?_ <;> kernel_rfl!) | (refine Wr.cell ?_ ?_ ?_ <;> kernel_rfl!)))) AsgL.nil (by kernel_rfl!)) (by kernel_rfl!)) (by kernel_rfl!) (by kernel_rfl!), ?_⟩
    refine Ex.cons (Ex1.assign (d := .int (wayF n c)) ?_ (by (first | (refine Wr.loc ?_ ?_ ?_ <;> kernel_rfl!) | (refine Wr.cell ?_ ?_ ?_ <;> kernel_rfl!))) (seqR_next ?_) (by kernel_rfl!))
    · unfold wayF
      (repeat' (with_reducible first | exact Ev.int | exact Ev.flt | exact Ev.str | exact Ev.name (by (repeat' (with_reducible first | exact upd_eq | assumption | refine upd_ne (by kernel_rfl!) ?_))) | apply Ev.bin | exact Bin.add | exact Bin.addF | exact Bin.subF | exact Bin.mulF | exact Bin.sub | exact Bin.mod (by k_dflt (first | with_reducible assumption | decide | omega)) | exact Bin.fdiv (by k_dflt (first | with_reducible assumption | decide | omega)) (fdiv_small (by k_dflt (first | with_reducible assumption | decide | omega))) | exact Bin.mul (IntMulOk.of_left (by k_dflt first | with_reducible assumption | decide)) | exact Bin.mul (IntMulOk.of_right (by k_dflt first | with_reducible assumption | decide)) | apply Ev.cmp (hm := by kernel_rfl!) | apply EvT.cmp (hm := by kernel_rfl!) | exact Cmp.lt | exact Cmp.gt | exact Cmp.le | exact Cmp.ge | exact Cmp.eq | exact Cmp.ne | exact EvS.nil | apply EvS.cons (hs := by kernel_rfl!) | refine Ev.tup ?_ (by k_dflt exact Nat.le_of_ble_eq_true rfl) | apply Ev.callB (b_abs (by assumption) (by (refine EnvG.mk' ?_ ?_ ?_ <;> kernel_rfl!)) (by kernel_rfl!)) (h1 := by kernel_rfl!) | apply Ev.callB (b_max (by assumption) (by (refine EnvG.mk' ?_ ?_ ?_ <;> kernel_rfl!)) (by kernel_rfl!)) (h1 := by kernel_rfl!) | apply Ev.callB (b_min (by assumption) (by (refine EnvG.mk' ?_ ?_ ?_ <;> kernel_rfl!)) (by kernel_rfl!)) (h1 := by kernel_rfl!) | exact CallR.abs | exact CallR.max2 (by assumption) | exact CallR.min2 (by assumption)))
    refine Ex.cons (Ex1.aug (b := w * ptF n c) (ho := Inp.add) (by (repeat' (with_reducible first | exact upd_eq | assumption | refine upd_ne (by kernel_rfl!) ?_))) ?_ (seqR_next ?_))
    · unfold ptF; (repeat' (with_reducible first | exact Ev.int | exact Ev.flt | exact Ev.str | exact Ev.name (by (repeat' (with_reducible first | exact upd_eq | assumption | refine upd_ne (by kernel_rfl!) ?_))) | apply Ev.bin | exact Bin.add | exact Bin.addF | exact Bin.subF | exact Bin.mulF | exact Bin.sub | exact Bin.mod (by k_dflt (first | with_reducible assumption | decide | omega)) | exact Bin.fdiv (by k_dflt (first | with_reducible assumption | decide | omega)) (fdiv_small (by k_dflt (first | with_reducible assumption | decide | omega))) | exact Bin.mul (IntMulOk.of_left (by k_dflt first | with_reducible assumption | decide)) | exact Bin.mul (IntMulOk.of_right (by k_dflt first | with_reducible assumption | decide)) | apply Ev.cmp (hm := by kernel_rfl!) | apply EvT.cmp (hm := by kernel_rfl!) | exact Cmp.lt | exact Cmp.gt | exact Cmp.le | exact Cmp.ge | exact Cmp.eq | exact Cmp.ne | exact EvS.nil | apply EvS.cons (hs := by kernel_rfl!) | refine Ev.tup ?_ (by k_dflt exact Nat.le_of_ble_eq_true rfl) | apply Ev.callB (b_abs (by assumption) (by (refine EnvG.mk' ?_ ?_ ?_ <;> kernel_rfl!)) (by kernel_rfl!)) (h1 := by kernel_rfl!) | apply Ev.callB (b_max (by assumption) (by (refine EnvG.mk' ?_ ?_ ?_ <;> kernel_rfl!)) (by kernel_rfl!)) (h1 := by kernel_rfl!) | apply Ev.callB (b_min (by assumption) (by (refine EnvG.mk' ?_ ?_ ?_ <;> kernel_rfl!)) (by kernel_rfl!)) (h1 := by kernel_rfl!) | exact CallR.abs | exact CallR.max2 (by assumption) | exact CallR.min2 (by assumption)))
    · exact Ex.nil (loopR_next ⟨by (repeat' (with_reducible first | exact upd_eq | assumption | refine upd_ne (by kernel_rfl!) ?_)), by rw [hp]; (repeat' (with_reducible first | exact upd_eq | assumption | refine upd_ne (by kernel_rfl!) ?_))⟩)

/-! part W2 -/
noncomputable def sumsF (ws : List Int) : List Int := ws.foldl (fun s w => s ++ s.map (· + w)) [0]
theorem sumsF_len (ws : List Int) : (sumsF ws).length = 2 ^ ws.length := by
  have : ∀ (ws s : List Int), (ws.foldl (fun s w => s ++ s.map (· + w)) s).length = s.length * 2 ^ ws.length := by
    intro ws
    induction ws with
    | nil => intro s; simp
    | cons w r ih => intro s; rw [List.foldl_cons, ih, List.length_append, List.length_map, List.length_cons, Nat.pow_succ]; rw [Nat.mul_comm (2 ^ r.length) 2, ← Nat.mul_assoc]; congr 1; omega
  rw [sumsF, this]; simp
theorem sumsF_take (ws : List Int) {i : Nat} {w : Int} (h : ws[i]? = some w) : sumsF (ws.take (i + 1)) = sumsF (ws.take i) ++ (sumsF (ws.take i)).map (· + w) := by
  unfold sumsF
  rw [List.take_add_one, h]
  simp [List.foldl_append]
set_option maxHeartbeats 400000 in
theorem sums_fn {Γ : G} {k : Nat} (S : Site Γ (k + 1)) (ws : List Int) (hw : ws.length ≤ 5) : CallR Γ (.ref 136) [.lst (intL ws)] (.lst (intL (sumsF ws))) := by
  k_dflt (refine' Fn.enter (ps := [Str.ofString "weights"]) ?ho ?hcd ?hb ?hl ?hk ?c1 ?c2 ?c3 S ?body)
  case ho => intro P; k_is
  case hcd => intro P; k_is
  case hb => exact vs1 rfl fun _ => rfl
  case hl => rfl
  case hk => exact ⟨⟨by first | exact .inl ⟨by kernel_rfl!, fun n => by kernel_rfl!⟩ | exact .inr ⟨by kernel_rfl!, fun n => by kernel_rfl!⟩, by decide⟩, trivial⟩
  case c1 => rfl
  case c2 => rfl
  case c3 => rfl
  intro Γ' S' h0
  have p1 : parS [Str.ofString "weights"] [D.lst (intL ws)] (Str.ofString "weights") = some (.imm (.lst (intL ws))) := by kernel_rfl!
  generalize parS [Str.ofString "weights"] [D.lst (intL ws)] = σ at p1
  refine Ex.cons (Ex1.assign (d := .lst [.int 0]) (Ev.lst (by (repeat' (with_reducible first | exact Ev.int | exact Ev.flt | exact Ev.str | exact Ev.name (by (repeat' (with_reducible first | exact upd_eq | assumption | refine upd_ne (by kernel_rfl!) ?_))) | apply Ev.bin | exact Bin.add | exact Bin.addF | exact Bin.subF | exact Bin.mulF | exact Bin.sub | exact Bin.mod (by k_dflt (first | with_reducible assumption | decide | omega)) | exact Bin.fdiv (by k_dflt (first | with_reducible assumption | decide | omega)) (fdiv_small (by k_dflt (first | with_reducible assumption | decide | omega))) | exact Bin.mul (IntMulOk.of_left (by k_dflt first | with_reducible assumption | decide)) | exact Bin.mul (IntMulOk.of_right (by k_dflt first | with_reducible assumption | decide)) | apply Ev.cmp (hm := by kernel_rfl!) | apply EvT.cmp (hm := by kernel_rfl!) | exact Cmp.lt | exact Cmp.gt | exact Cmp.le | exact Cmp.ge | exact Cmp.eq | exact Cmp.ne | exact EvS.nil | apply EvS.cons (hs := by kernel_rfl!) | refine Ev.tup ?_ (by k_dflt exact Nat.le_of_ble_eq_true rfl) | apply Ev.callB (b_abs (by assumption) (by (refine EnvG.mk' ?_ ?_ ?_ <;> kernel_rfl!)) (by kernel_rfl!)) (h1 := by kernel_rfl!) | apply Ev.callB (b_max (by assumption) (by (refine EnvG.mk' ?_ ?_ ?_ <;> kernel_rfl!)) (by kernel_rfl!)) (h1 := by kernel_rfl!) | apply Ev.callB (b_min (by assumption) (by (refine EnvG.mk' ?_ ?_ ?_ <;> kernel_rfl!)) (by kernel_rfl!)) (h1 := by kernel_rfl!) | exact CallR.abs | exact CallR.max2 (by assumption) | exact CallR.min2 (by assumption)))) (by decide)) (by (first | (refine Wr.loc ?_ ?_ ?_ <;> kernel_rfl!) | (refine Wr.cell ?_ ?_ ?_ <;> kernel_rfl!))) (seqR_next ?_) (by kernel_rfl!))
  refine Ex.cons (Ex1.loop (items := intL ws) (fun i σ => σ (Str.ofString "weights") = some (.imm (.lst (intL ws))) ∧ σ (Str.ofString "sums") = some (.imm (.lst (intL (sumsF (ws.take i)))))) (Src.list S' (Ev.name (by (repeat' (with_reducible first | exact upd_eq | assumption | refine upd_ne (by kernel_rfl!) ?_))))) ⟨by (repeat' (with_reducible first | exact upd_eq | assumption | refine upd_ne (by kernel_rfl!) ?_)), upd_eq⟩ ?step ?done (by kernel_rfl!))
  case done =>
    rintro σ' ⟨h1, h2⟩
    rw [List.length_map, List.take_length] at h2
    exact seqR_next (Ex.cons (Ex1.ret (Ev.name h2) (seqR_ret rfl)))
  case step =>
    rintro i d σ' hd ⟨h1, h2⟩
    rw [List.getElem?_map, Option.map_eq_some_iff] at hd
    obtain ⟨w, hw', rfl⟩ := hd
    have hlen : (sumsF (ws.take i)).length ≤ 32 := by
      rw [sumsF_len]
      have : (ws.take i).length ≤ 5 := by rw [List.length_take]; omega
      exact Nat.pow_le_pow_right (by decide) this
    refine ⟨_, Asg.name (by (first | (refine Wr.loc ?_ ?_ ?_ <;> kernel_rfl!) | (refine Wr.cell ?_ ?_ ?_ <;> kernel_rfl!))), ?_⟩
    refine Ex.cons (Ex1.assign (d := .lst (intL (sumsF (ws.take (i + 1))))) ?_ (by (first | (refine Wr.loc ?_ ?_ ?_ <;> kernel_rfl!) | (refine Wr.cell ?_ ?_ ?_ <;> kernel_rfl!))) (seqR_next (Ex.nil (loopR_next ⟨by (repeat' (with_reducible first | exact upd_eq | assumption | refine upd_ne (by kernel_rfl!) ?_)), upd_eq⟩))) (by kernel_rfl!))
    rw [sumsF_take ws hw', show intL (sumsF (ws.take i) ++ (sumsF (ws.take i)).map (· + w)) = intL (sumsF (ws.take i)) ++ intL ((sumsF (ws.take i)).map (· + w)) from List.map_append]
    refine Ev.bin (Ev.name (by (repeat' (with_reducible first | exact upd_eq | assumption | refine upd_ne (by kernel_rfl!) ?_)))) ?_ (Bin.addL ?_)
    · refine Ev.of_eq (Ev.comp S' (l := sumsF (ws.take i)) (gt := .int) (fr := [Str.ofString "weight"]) (cl := [(Str.ofString "weight", Γ'.L + 1)]) (fun _ => true) (fun a => .int (a + w)) (Src.list S' (Ev.name (by (repeat' (with_reducible first | exact upd_eq | assumption | refine upd_ne (by kernel_rfl!) ?_))))) ?cok (fun a _ C => EvIf.nil) (fun a _ _ C => ?elt) ?_ (by kernel_rfl!)) ?_
      case cok =>
        refine ⟨by kernel_rfl!, by kernel_rfl!, by decide, fun C => .inl ⟨by kernel_rfl!, by kernel_rfl!⟩, by kernel_rfl!, fun C y hy => ?_⟩
        rw [List.mem_singleton.mp hy]
        exact ⟨Γ'.L + 1, by kernel_rfl!, by kernel_rfl!, .inl (by kernel_rfl!), by kernel_rfl!, by kernel_rfl!⟩
      case elt =>
        exact Ev.bin (Ev.name compS_x) (Ev.name (compS_y (by kernel_rfl!) (by kernel_rfl!) upd_eq)) Bin.add
      · exact Nat.le_trans hlen (by decide)
      · rw [pv_filter_true]; simp [intL, Function.comp_def]
    · simp only [intL, List.length_map]
      exact Nat.le_trans (Nat.add_le_add hlen hlen) (by decide)

/-! part W3 -/
theorem n_enumerate (P : Params) : nsIn (hd.heap_39 P) mainGlobals (Str.ofString "enumerate") = some none := by k_is
theorem b_enumerate {Γ : G} {env : Env} {k : Nat} (S : Site Γ k) (eg : EnvG env) (hx : env.kindOf (Str.ofString "enumerate") = some .globalImplicit) : Glb Γ env (Str.ofString "enumerate") (.type "enumerate") := Glb.builtin S eg n_enumerate (by boot_fast) (by decide) hx (by decide)
noncomputable def cellsAt (l : List Int) : Nat → List Int
  | 0 => [1, 546, 323, 100, 350]
  | i + 1 => (cellsAt l i).set (i % 5) ((cellsAt l i).getD (i % 5) 0 + (l.getD i 0).fmod 110592)
noncomputable def cellsF (xs : List Int) : List Int := cellsAt (xs.take 10) (xs.take 10).length
theorem cellsAt_len (l : List Int) : ∀ i, (cellsAt l i).length = 5
  | 0 => rfl
  | i + 1 => by unfold cellsAt; rw [List.length_set, cellsAt_len l i]
theorem cellsAt_bound (l : List Int) : ∀ i, ∀ c ∈ cellsAt l i, 0 ≤ c ∧ c ≤ 546 + i * 110592
  | 0, c, h => by
    have : c = 1 ∨ c = 546 ∨ c = 323 ∨ c = 100 ∨ c = 350 := by simpa [cellsAt] using h
    omega
  | i + 1, c, h => by
    unfold cellsAt at h
    have h1 : 0 ≤ (l.getD i 0).fmod 110592 := Int.fmod_nonneg_of_pos _ (by decide)
    have h2 : (l.getD i 0).fmod 110592 < 110592 := Int.fmod_lt_of_pos _ (by decide)
    rcases List.mem_or_eq_of_mem_set h with h | h
    · have := cellsAt_bound l i c h
      push_cast; omega
    · have hlt : i % 5 < (cellsAt l i).length := by rw [cellsAt_len]; omega
      have : (cellsAt l i).getD (i % 5) 0 ∈ cellsAt l i := by rw [List.getD_eq_getElem?_getD, List.getElem?_eq_getElem hlt]; exact List.getElem_mem hlt
      have := cellsAt_bound l i _ this
      push_cast; omega
theorem intL_get {ns : List Int} {i : Nat} (h : i < ns.length) : (intL ns)[i]? = some (.int (ns.getD i 0)) := by
  rw [List.getElem?_map, List.getD_eq_getElem?_getD, List.getElem?_eq_getElem h]; rfl
theorem intL_set {ns : List Int} {i : Nat} {a : Int} : (intL ns).set i (.int a) = intL (ns.set i a) := (List.map_set).symm
theorem slice_upto {ns : List Int} {n : Nat} : sliceD (intL ns) none (some (n : Int)) = intL (ns.take n) := by
  unfold sliceD
  have h : kms_hi (some (n : Int)) (intL ns).length = min n (intL ns).length := by
    unfold kms_hi
    simp only
    rw [if_neg (by omega)]; simp
  rw [h]
  show ((intL ns).drop 0).take _ = _
  rw [List.drop_zero, show kms_lo none (intL ns).length = 0 from rfl, Nat.sub_zero, kmk_take_min]
  exact List.map_take.symm
set_option maxHeartbeats 400000 in
theorem cells_fn {Γ : G} {k : Nat} (S : Site Γ (k + 1)) (xs : List Int) (hw : xs.length ≤ 63) : CallR Γ (.ref 93) [.lst (intL xs)] (.lst (intL (cellsF xs))) := by
  k_dflt (refine' Fn.enter (ps := [Str.ofString "script"]) ?ho ?hcd ?hb ?hl ?hk ?c1 ?c2 ?c3 S ?body)
  case ho => intro P; k_is
  case hcd => intro P; k_is
  case hb => exact vs1 rfl fun _ => rfl
  case hl => rfl
  case hk => exact ⟨⟨by first | exact .inl ⟨by kernel_rfl!, fun n => by kernel_rfl!⟩ | exact .inr ⟨by kernel_rfl!, fun n => by kernel_rfl!⟩, by decide⟩, trivial⟩
  case c1 => rfl
  case c2 => rfl
  case c3 => rfl
  intro Γ' S' h0
  have p1 : parS [Str.ofString "script"] [.lst (intL xs)] (Str.ofString "script") = some (.imm (.lst (intL xs))) := by kernel_rfl!
  generalize parS [Str.ofString "script"] [.lst (intL xs)] = σ at p1
  refine Ex.cons (Ex1.assignN (ds := [.int 1, .int 546, .int 323, .int 100, .int 350]) (EvN.lst (by (repeat' (with_reducible first | exact Ev.int | exact Ev.flt | exact Ev.str | exact Ev.name (by (repeat' (with_reducible first | exact upd_eq | assumption | refine upd_ne (by kernel_rfl!) ?_))) | apply Ev.bin | exact Bin.add | exact Bin.addF | exact Bin.subF | exact Bin.mulF | exact Bin.sub | exact Bin.mod (by k_dflt (first | with_reducible assumption | decide | omega)) | exact Bin.fdiv (by k_dflt (first | with_reducible assumption | decide | omega)) (fdiv_small (by k_dflt (first | with_reducible assumption | decide | omega))) | exact Bin.mul (IntMulOk.of_left (by k_dflt first | with_reducible assumption | decide)) | exact Bin.mul (IntMulOk.of_right (by k_dflt first | with_reducible assumption | decide)) | apply Ev.cmp (hm := by kernel_rfl!) | apply EvT.cmp (hm := by kernel_rfl!) | exact Cmp.lt | exact Cmp.gt | exact Cmp.le | exact Cmp.ge | exact Cmp.eq | exact Cmp.ne | exact EvS.nil | apply EvS.cons (hs := by kernel_rfl!) | refine Ev.tup ?_ (by k_dflt exact Nat.le_of_ble_eq_true rfl) | apply Ev.callB (b_abs (by assumption) (by (refine EnvG.mk' ?_ ?_ ?_ <;> kernel_rfl!)) (by kernel_rfl!)) (h1 := by kernel_rfl!) | apply Ev.callB (b_max (by assumption) (by (refine EnvG.mk' ?_ ?_ ?_ <;> kernel_rfl!)) (by kernel_rfl!)) (h1 := by kernel_rfl!) | apply Ev.callB (b_min (by assumption) (by (refine EnvG.mk' ?_ ?_ ?_ <;> kernel_rfl!)) (by kernel_rfl!)) (h1 := by kernel_rfl!) | exact CallR.abs | exact CallR.max2 (by assumption) | exact CallR.min2 (by assumption)))) (by decide)) (by (first | (refine Wr.loc ?_ ?_ ?_ <;> kernel_rfl!) | (refine Wr.cell ?_ ?_ ?_ <;> kernel_rfl!))) (seqR_next ?_) (by kernel_rfl!))
  refine Ex.cons (Ex1.loop (items := intL (xs.take 10)) (fun i σ => σ (Str.ofString "cells") = some (.own (intL (cellsAt (xs.take 10) i)))) (Src.enum S' (b_enumerate S' (by (refine EnvG.mk' ?_ ?_ ?_ <;> kernel_rfl!)) (by kernel_rfl!)) ?src (by kernel_rfl!)) upd_eq ?step ?done (by kernel_rfl!))
  case src =>
    rw [show intL (xs.take 10) = sliceD (intL xs) none (some 10) from slice_upto.symm]
    refine Ev.slice (EvL.of (Ev.name (by (repeat' (with_reducible first | exact upd_eq | assumption | refine upd_ne (by kernel_rfl!) ?_))))) EvP.none (EvP.some Ev.int) ?_
    rw [List.length_map]; exact Nat.le_trans hw (by decide)
  case done =>
    rintro σ' h1
    rw [List.length_map] at h1
    refine seqR_next (Ex.freeze (Str.ofString "cells") h1 h0 (Ex.cons (Ex1.ret (Ev.name upd_eq) (seqR_ret rfl))))
  case step =>
    rintro i d σ' hd h1
    have hi : i < (xs.take 10).length := by
      rcases Nat.lt_or_ge i (xs.take 10).length with h | h
      · exact h
      · rw [List.getElem?_eq_none (by rw [List.length_map]; exact h)] at hd; cases hd
    rw [intL_get hi] at hd
    cases hd
    have hlt : i % 5 < (cellsAt (xs.take 10) i).length := by rw [cellsAt_len]; omega
    have e5 : ((i : Int).fmod 5).toNat = i % 5 := by
      rw [Int.fmod_eq_emod_of_nonneg _ (by decide)]; omega
    refine ⟨_, Asg.tup S' (AsgL.cons (Asg.name (by (first | (refine Wr.loc ?_ ?_ ?_ <;> kernel_rfl!) | (refine Wr.cell ?_ ?_ ?_ <;> kernel_rfl!)))) (AsgL.cons (Asg.name (by (first | (refine Wr.loc ?_ ?_ ?_ <;> kernel_rfl!) | (refine Wr.cell ?_ ?_ ?_ <;> kernel_rfl!)))) AsgL.nil (by kernel_rfl!)) (by kernel_rfl!)) (by kernel_rfl!) (by kernel_rfl!), ?_⟩
    refine Ex.cons (Ex1.augItem (ds := intL (cellsAt (xs.take 10) i)) (k := (i : Int).fmod 5) (a := (cellsAt (xs.take 10) i).getD (i % 5) 0) (b := ((xs.take 10).getD i 0).fmod 110592) (by (repeat' (with_reducible first | exact upd_eq | assumption | refine upd_ne (by kernel_rfl!) ?_))) (by (repeat' (with_reducible first | exact Ev.int | exact Ev.flt | exact Ev.str | exact Ev.name (by (repeat' (with_reducible first | exact upd_eq | assumption | refine upd_ne (by kernel_rfl!) ?_))) | apply Ev.bin | exact Bin.add | exact Bin.addF | exact Bin.subF | exact Bin.mulF | exact Bin.sub | exact Bin.mod (by k_dflt (first | with_reducible assumption | decide | omega)) | exact Bin.fdiv (by k_dflt (first | with_reducible assumption | decide | omega)) (fdiv_small (by k_dflt (first | with_reducible assumption | decide | omega))) | exact Bin.mul (IntMulOk.of_left (by k_dflt first | with_reducible assumption | decide)) | exact Bin.mul (IntMulOk.of_right (by k_dflt first | with_reducible assumption | decide)) | apply Ev.cmp (hm := by kernel_rfl!) | apply EvT.cmp (hm := by kernel_rfl!) | exact Cmp.lt | exact Cmp.gt | exact Cmp.le | exact Cmp.ge | exact Cmp.eq | exact Cmp.ne | exact EvS.nil | apply EvS.cons (hs := by kernel_rfl!) | refine Ev.tup ?_ (by k_dflt exact Nat.le_of_ble_eq_true rfl) | apply Ev.callB (b_abs (by assumption) (by (refine EnvG.mk' ?_ ?_ ?_ <;> kernel_rfl!)) (by kernel_rfl!)) (h1 := by kernel_rfl!) | apply Ev.callB (b_max (by assumption) (by (refine EnvG.mk' ?_ ?_ ?_ <;> kernel_rfl!)) (by kernel_rfl!)) (h1 := by kernel_rfl!) | apply Ev.callB (b_min (by assumption) (by (refine EnvG.mk' ?_ ?_ ?_ <;> kernel_rfl!)) (by kernel_rfl!)) (h1 := by kernel_rfl!) | exact CallR.abs | exact CallR.max2 (by assumption) | exact CallR.min2 (by assumption)))) (by (repeat' (with_reducible first | exact Ev.int | exact Ev.flt | exact Ev.str | exact Ev.name (by (repeat' (with_reducible first | exact upd_eq | assumption | refine upd_ne (by kernel_rfl!) ?_))) | apply Ev.bin | exact Bin.add | exact Bin.addF | exact Bin.subF | exact Bin.mulF | exact Bin.sub | exact Bin.mod (by k_dflt (first | with_reducible assumption | decide | omega)) | exact Bin.fdiv (by k_dflt (first | with_reducible assumption | decide | omega)) (fdiv_small (by k_dflt (first | with_reducible assumption | decide | omega))) | exact Bin.mul (IntMulOk.of_left (by k_dflt first | with_reducible assumption | decide)) | exact Bin.mul (IntMulOk.of_right (by k_dflt first | with_reducible assumption | decide)) | apply Ev.cmp (hm := by kernel_rfl!) | apply EvT.cmp (hm := by kernel_rfl!) | exact Cmp.lt | exact Cmp.gt | exact Cmp.le | exact Cmp.ge | exact Cmp.eq | exact Cmp.ne | exact EvS.nil | apply EvS.cons (hs := by kernel_rfl!) | refine Ev.tup ?_ (by k_dflt exact Nat.le_of_ble_eq_true rfl) | apply Ev.callB (b_abs (by assumption) (by (refine EnvG.mk' ?_ ?_ ?_ <;> kernel_rfl!)) (by kernel_rfl!)) (h1 := by kernel_rfl!) | apply Ev.callB (b_max (by assumption) (by (refine EnvG.mk' ?_ ?_ ?_ <;> kernel_rfl!)) (by kernel_rfl!)) (h1 := by kernel_rfl!) | apply Ev.callB (b_min (by assumption) (by (refine EnvG.mk' ?_ ?_ ?_ <;> kernel_rfl!)) (by kernel_rfl!)) (h1 := by kernel_rfl!) | exact CallR.abs | exact CallR.max2 (by assumption) | exact CallR.min2 (by assumption)))) (Int.fmod_nonneg_of_pos _ (by decide)) ?_ ?_ Inp.add (seqR_next (Ex.nil (loopR_next ?_))) (by kernel_rfl!))
    · rw [e5]; exact intL_get hlt
    · rw [List.length_map, cellsAt_len]; decide
    · rw [e5, intL_set]; exact upd_eq

/-! part W4 -/
noncomputable def yF (r g b : UInt64) : UInt64 := Float64.add (Float64.add (Float64.mul 4599075939470750515 r) (Float64.mul 4603489467105573601 g)) (Float64.mul 4592590756007337001 b)
noncomputable def iF (r g b : UInt64) : UInt64 := Float64.sub (Float64.mul 4604840546993784750 (Float64.sub r (yF r g b))) (Float64.mul 4598535507515466056 (Float64.sub b (yF r g b)))
noncomputable def qF (r g b : UInt64) : UInt64 := Float64.add (Float64.mul 4602318531202457272 (Float64.sub r (yF r g b))) (Float64.mul 4601057523306793533 (Float64.sub b (yF r g b)))
set_option maxHeartbeats 400000 in
theorem yiq_fn {Γ : G} {k : Nat} (S : Site Γ (k + 1)) (r g b : UInt64) : CallR Γ (.ref 21) [.flt r, .flt g, .flt b] (.tup [.flt (yF r g b), .flt (iF r g b), .flt (qF r g b)]) := by
  k_dflt (refine' Fn.enter (ps := [Str.ofString "r", Str.ofString "g", Str.ofString "b"]) ?ho ?hcd ?hb ?hl ?hk ?c1 ?c2 ?c3 S ?body)
  case ho => intro P; k_is
  case hcd => intro P; k_is
  case hb => exact vs3 rfl fun _ _ _ => rfl
  case hl => rfl
  case hk => exact ⟨⟨by first | exact .inl ⟨by kernel_rfl!, fun n => by kernel_rfl!⟩ | exact .inr ⟨by kernel_rfl!, fun n => by kernel_rfl!⟩, by decide⟩, ⟨by first | exact .inl ⟨by kernel_rfl!, fun n => by kernel_rfl!⟩ | exact .inr ⟨by kernel_rfl!, fun n => by kernel_rfl!⟩, by decide⟩, ⟨by first | exact .inl ⟨by kernel_rfl!, fun n => by kernel_rfl!⟩ | exact .inr ⟨by kernel_rfl!, fun n => by kernel_rfl!⟩, by decide⟩, trivial⟩
  case c1 => rfl
  case c2 => rfl
  case c3 => rfl
  intro Γ' S' h0
  have p1 : parS [Str.ofString "r", Str.ofString "g", Str.ofString "b"] [(.flt r), (.flt g), (.flt b)] (Str.ofString "r") = some (.imm (.flt r)) := by kernel_rfl!
  have p2 : parS [Str.ofString "r", Str.ofString "g", Str.ofString "b"] [(.flt r), (.flt g), (.flt b)] (Str.ofString "g") = some (.imm (.flt g)) := by kernel_rfl!
  have p3 : parS [Str.ofString "r", Str.ofString "g", Str.ofString "b"] [(.flt r), (.flt g), (.flt b)] (Str.ofString "b") = some (.imm (.flt b)) := by kernel_rfl!
  generalize parS [Str.ofString "r", Str.ofString "g", Str.ofString "b"] [(.flt r), (.flt g), (.flt b)] = σ at p1 p2 p3
  refine Ex.cons (Ex1.assign (d := .flt (yF r g b)) ?_ (by (first | (refine Wr.loc ?_ ?_ ?_ <;> kernel_rfl!) | (refine Wr.cell ?_ ?_ ?_ <;> kernel_rfl!))) (seqR_next ?_) (by kernel_rfl!))
  · unfold yF; (repeat' (with_reducible first | exact Ev.int | exact Ev.flt | exact Ev.str | exact Ev.name (by (repeat' (with_reducible first | exact upd_eq | assumption | refine upd_ne (by kernel_rfl!) ?_))) | apply Ev.bin | exact Bin.add | exact Bin.addF | exact Bin.subF | exact Bin.mulF | exact Bin.sub | exact Bin.mod (by k_dflt (first | with_reducible assumption | decide | omega)) | exact Bin.fdiv (by k_dflt (first | with_reducible assumption | decide | omega)) (fdiv_small (by k_dflt (first | with_reducible assumption | decide | omega))) | exact Bin.mul (IntMulOk.of_left (by k_dflt first | with_reducible assumption | decide)) | exact Bin.mul (IntMulOk.of_right (by k_dflt first | with_reducible assumption | decide)) | apply Ev.cmp (hm := by kernel_rfl!) | apply EvT.cmp (hm := by kernel_rfl!) | exact Cmp.lt | exact Cmp.gt | exact Cmp.le | exact Cmp.ge | exact Cmp.eq | exact Cmp.ne | exact EvS.nil | apply EvS.cons (hs := by kernel_rfl!) | refine Ev.tup ?_ (by k_dflt exact Nat.le_of_ble_eq_true rfl) | apply Ev.callB (b_abs (by assumption) (by (refine EnvG.mk' ?_ ?_ ?_ <;> kernel_rfl!)) (by kernel_rfl!)) (h1 := by kernel_rfl!) | apply Ev.callB (b_max (by assumption) (by (refine EnvG.mk' ?_ ?_ ?_ <;> kernel_rfl!)) (by kernel_rfl!)) (h1 := by kernel_rfl!) | apply Ev.callB (b_min (by assumption) (by (refine EnvG.mk' ?_ ?_ ?_ <;> kernel_rfl!)) (by kernel_rfl!)) (h1 := by kernel_rfl!) | exact CallR.abs | exact CallR.max2 (by assumption) | exact CallR.min2 (by assumption)))
  refine Ex.cons (Ex1.assign (d := .flt (iF r g b)) ?_ (by (first | (refine Wr.loc ?_ ?_ ?_ <;> kernel_rfl!) | (refine Wr.cell ?_ ?_ ?_ <;> kernel_rfl!))) (seqR_next ?_) (by kernel_rfl!))
  · unfold iF; (repeat' (with_reducible first | exact Ev.int | exact Ev.flt | exact Ev.str | exact Ev.name (by (repeat' (with_reducible first | exact upd_eq | assumption | refine upd_ne (by kernel_rfl!) ?_))) | apply Ev.bin | exact Bin.add | exact Bin.addF | exact Bin.subF | exact Bin.mulF | exact Bin.sub | exact Bin.mod (by k_dflt (first | with_reducible assumption | decide | omega)) | exact Bin.fdiv (by k_dflt (first | with_reducible assumption | decide | omega)) (fdiv_small (by k_dflt (first | with_reducible assumption | decide | omega))) | exact Bin.mul (IntMulOk.of_left (by k_dflt first | with_reducible assumption | decide)) | exact Bin.mul (IntMulOk.of_right (by k_dflt first | with_reducible assumption | decide)) | apply Ev.cmp (hm := by kernel_rfl!) | apply EvT.cmp (hm := by kernel_rfl!) | exact Cmp.lt | exact Cmp.gt | exact Cmp.le | exact Cmp.ge | exact Cmp.eq | exact Cmp.ne | exact EvS.nil | apply EvS.cons (hs := by kernel_rfl!) | refine Ev.tup ?_ (by k_dflt exact Nat.le_of_ble_eq_true rfl) | apply Ev.callB (b_abs (by assumption) (by (refine EnvG.mk' ?_ ?_ ?_ <;> kernel_rfl!)) (by kernel_rfl!)) (h1 := by kernel_rfl!) | apply Ev.callB (b_max (by assumption) (by (refine EnvG.mk' ?_ ?_ ?_ <;> kernel_rfl!)) (by kernel_rfl!)) (h1 := by kernel_rfl!) | apply Ev.callB (b_min (by assumption) (by (refine EnvG.mk' ?_ ?_ ?_ <;> kernel_rfl!)) (by kernel_rfl!)) (h1 := by kernel_rfl!) | exact CallR.abs | exact CallR.max2 (by assumption) | exact CallR.min2 (by assumption)))
  refine Ex.cons (Ex1.assign (d := .flt (qF r g b)) ?_ (by (first | (refine Wr.loc ?_ ?_ ?_ <;> kernel_rfl!) | (refine Wr.cell ?_ ?_ ?_ <;> kernel_rfl!))) (seqR_next ?_) (by kernel_rfl!))
  · unfold qF; (repeat' (with_reducible first | exact Ev.int | exact Ev.flt | exact Ev.str | exact Ev.name (by (repeat' (with_reducible first | exact upd_eq | assumption | refine upd_ne (by kernel_rfl!) ?_))) | apply Ev.bin | exact Bin.add | exact Bin.addF | exact Bin.subF | exact Bin.mulF | exact Bin.sub | exact Bin.mod (by k_dflt (first | with_reducible assumption | decide | omega)) | exact Bin.fdiv (by k_dflt (first | with_reducible assumption | decide | omega)) (fdiv_small (by k_dflt (first | with_reducible assumption | decide | omega))) | exact Bin.mul (IntMulOk.of_left (by k_dflt first | with_reducible assumption | decide)) | exact Bin.mul (IntMulOk.of_right (by k_dflt first | with_reducible assumption | decide)) | apply Ev.cmp (hm := by kernel_rfl!) | apply EvT.cmp (hm := by kernel_rfl!) | exact Cmp.lt | exact Cmp.gt | exact Cmp.le | exact Cmp.ge | exact Cmp.eq | exact Cmp.ne | exact EvS.nil | apply EvS.cons (hs := by kernel_rfl!) | refine Ev.tup ?_ (by k_dflt exact Nat.le_of_ble_eq_true rfl) | apply Ev.callB (b_abs (by assumption) (by (refine EnvG.mk' ?_ ?_ ?_ <;> kernel_rfl!)) (by kernel_rfl!)) (h1 := by kernel_rfl!) | apply Ev.callB (b_max (by assumption) (by (refine EnvG.mk' ?_ ?_ ?_ <;> kernel_rfl!)) (by kernel_rfl!)) (h1 := by kernel_rfl!) | apply Ev.callB (b_min (by assumption) (by (refine EnvG.mk' ?_ ?_ ?_ <;> kernel_rfl!)) (by kernel_rfl!)) (h1 := by kernel_rfl!) | exact CallR.abs | exact CallR.max2 (by assumption) | exact CallR.min2 (by assumption)))
  exact Ex.cons (Ex1.ret (by (repeat' (with_reducible first | exact Ev.int | exact Ev.flt | exact Ev.str | exact Ev.name (by (repeat' (with_reducible first | exact upd_eq | assumption | refine upd_ne (by kernel_rfl!) ?_))) | apply Ev.bin | exact Bin.add | exact Bin.addF | exact Bin.subF | exact Bin.mulF | exact Bin.sub | exact Bin.mod (by k_dflt (first | with_reducible assumption | decide | omega)) | exact Bin.fdiv (by k_dflt (first | with_reducible assumption | decide | omega)) (fdiv_small (by k_dflt (first | with_reducible assumption | decide | omega))) | exact Bin.mul (IntMulOk.of_left (by k_dflt first | with_reducible assumption | decide)) | exact Bin.mul (IntMulOk.of_right (by k_dflt first | with_reducible assumption | decide)) | apply Ev.cmp (hm := by kernel_rfl!) | apply EvT.cmp (hm := by kernel_rfl!) | exact Cmp.lt | exact Cmp.gt | exact Cmp.le | exact Cmp.ge | exact Cmp.eq | exact Cmp.ne | exact EvS.nil | apply EvS.cons (hs := by kernel_rfl!) | refine Ev.tup ?_ (by k_dflt exact Nat.le_of_ble_eq_true rfl) | apply Ev.callB (b_abs (by assumption) (by (refine EnvG.mk' ?_ ?_ ?_ <;> kernel_rfl!)) (by kernel_rfl!)) (h1 := by kernel_rfl!) | apply Ev.callB (b_max (by assumption) (by (refine EnvG.mk' ?_ ?_ ?_ <;> kernel_rfl!)) (by kernel_rfl!)) (h1 := by kernel_rfl!) | apply Ev.callB (b_min (by assumption) (by (refine EnvG.mk' ?_ ?_ ?_ <;> kernel_rfl!)) (by kernel_rfl!)) (h1 := by kernel_rfl!) | exact CallR.abs | exact CallR.max2 (by assumption) | exact CallR.min2 (by assumption)))) (seqR_ret rfl))
theorem n_int (P : Params) : nsIn (hd.heap_39 P) mainGlobals (Str.ofString "int") = some none := by k_is
theorem b_int {Γ : G} {env : Env} {k : Nat} (S : Site Γ k) (eg : EnvG env) (hx : env.kindOf (Str.ofString "int") = some .globalImplicit) : Glb Γ env (Str.ofString "int") (.type "int") := Glb.builtin S eg n_int (by boot_fast) (by decide) hx (by decide)
noncomputable def hfF (i : Int) (h : UInt64) : UInt64 := Float64.sub (Float64.mul h 4618441417868443648) (Float64.ofInt i)
noncomputable def hpF (s v : UInt64) : UInt64 := Float64.mul v (Float64.sub 4607182418800017408 s)
noncomputable def hqF (i : Int) (h s v : UInt64) : UInt64 := Float64.mul v (Float64.sub 4607182418800017408 (Float64.mul s (hfF i h)))
noncomputable def htF (i : Int) (h s v : UInt64) : UInt64 := Float64.mul v (Float64.sub 4607182418800017408 (Float64.mul s (Float64.sub 4607182418800017408 (hfF i h))))
noncomputable def hsvT (i : Int) (h s v : UInt64) : UInt64 × UInt64 × UInt64 :=
  if i.fmod 6 = 0 then (v, htF i h s v, hpF s v) else if i.fmod 6 = 1 then (hqF i h s v, v, hpF s v) else if i.fmod 6 = 2 then (hpF s v, v, htF i h s v)
  else if i.fmod 6 = 3 then (hpF s v, hqF i h s v, v) else if i.fmod 6 = 4 then (htF i h s v, hpF s v, v) else (v, hpF s v, hqF i h s v)
noncomputable def tri (x : UInt64 × UInt64 × UInt64) : D := .tup [.flt x.1, .flt x.2.1, .flt x.2.2]
set_option maxHeartbeats 400000 in
theorem hsv_fn {Γ : G} {k : Nat} (S : Site Γ (k + 1)) {h s v : UInt64} {sg : Bool} {m : Nat} {e : Int} (hs : (Float64.cmp s 0 == some Ordering.eq) = false) (hdc : Float64.decode (Float64.mul h 4618441417868443648) = .fin sg m e)
    (hi : (Float64.truncOf sg m e).natAbs < 2 ^ 1023) : CallR Γ (.ref 28) [.flt h, .flt s, .flt v] (tri (hsvT (Float64.truncOf sg m e) h s v)) := by
  generalize hie : Float64.truncOf sg m e = i at hi
  have hmod0 : 0 ≤ i.fmod 6 := Int.fmod_nonneg_of_pos i (by decide)
  have hmod6 : i.fmod 6 < 6 := Int.fmod_lt_of_pos i (by decide)
  k_dflt (refine' Fn.enter (ps := [Str.ofString "h", Str.ofString "s", Str.ofString "v"]) ?ho ?hcd ?hb ?hl ?hk ?c1 ?c2 ?c3 S ?body)
  case ho => intro P; k_is
  case hcd => intro P; k_is
  case hb => exact vs3 rfl fun _ _ _ => rfl
  case hl => rfl
  case hk => exact ⟨⟨by first | exact .inl ⟨by kernel_rfl!, fun n => by kernel_rfl!⟩ | exact .inr ⟨by kernel_rfl!, fun n => by kernel_rfl!⟩, by decide⟩, ⟨by first | exact .inl ⟨by kernel_rfl!, fun n => by kernel_rfl!⟩ | exact .inr ⟨by kernel_rfl!, fun n => by kernel_rfl!⟩, by decide⟩, ⟨by first | exact .inl ⟨by kernel_rfl!, fun n => by kernel_rfl!⟩ | exact .inr ⟨by kernel_rfl!, fun n => by kernel_rfl!⟩, by decide⟩, trivial⟩
  case c1 => rfl
  case c2 => rfl
  case c3 => rfl
  intro Γ' S' h0
  have p1 : parS [Str.ofString "h", Str.ofString "s", Str.ofString "v"] [(.flt h), (.flt s), (.flt v)] (Str.ofString "h") = some (.imm (.flt h)) := by kernel_rfl!
  have p2 : parS [Str.ofString "h", Str.ofString "s", Str.ofString "v"] [(.flt h), (.flt s), (.flt v)] (Str.ofString "s") = some (.imm (.flt s)) := by kernel_rfl!
  have p3 : parS [Str.ofString "h", Str.ofString "s", Str.ofString "v"] [(.flt h), (.flt s), (.flt v)] (Str.ofString "v") = some (.imm (.flt v)) := by kernel_rfl!
  generalize parS [Str.ofString "h", Str.ofString "s", Str.ofString "v"] [(.flt h), (.flt s), (.flt v)] = σ at p1 p2 p3
  refine Ex.cons (Ex1.ite (EvT.cmp (Ev.name (by (repeat' (with_reducible first | exact upd_eq | assumption | refine upd_ne (by kernel_rfl!) ?_)))) Ev.flt Cmp.eqF (by kernel_rfl!)) (fun q => absurd (hs.symm.trans q) (by decide)) fun _ => Ex.nil (seqR_next ?_))
  refine Ex.cons (Ex1.assign (d := .int i) ?_ (by (first | (refine Wr.loc ?_ ?_ ?_ <;> kernel_rfl!) | (refine Wr.cell ?_ ?_ ?_ <;> kernel_rfl!))) (seqR_next ?_) (by kernel_rfl!))
  · exact Ev.callT (b_int S' (by (refine EnvG.mk' ?_ ?_ ?_ <;> kernel_rfl!)) (by kernel_rfl!)) (ds := [.flt (Float64.mul h 4618441417868443648)]) (by (repeat' (with_reducible first | exact Ev.int | exact Ev.flt | exact Ev.str | exact Ev.name (by (repeat' (with_reducible first | exact upd_eq | assumption | refine upd_ne (by kernel_rfl!) ?_))) | apply Ev.bin | exact Bin.add | exact Bin.addF | exact Bin.subF | exact Bin.mulF | exact Bin.sub | exact Bin.mod (by k_dflt (first | with_reducible assumption | decide | omega)) | exact Bin.fdiv (by k_dflt (first | with_reducible assumption | decide | omega)) (fdiv_small (by k_dflt (first | with_reducible assumption | decide | omega))) | exact Bin.mul (IntMulOk.of_left (by k_dflt first | with_reducible assumption | decide)) | exact Bin.mul (IntMulOk.of_right (by k_dflt first | with_reducible assumption | decide)) | apply Ev.cmp (hm := by kernel_rfl!) | apply EvT.cmp (hm := by kernel_rfl!) | exact Cmp.lt | exact Cmp.gt | exact Cmp.le | exact Cmp.ge | exact Cmp.eq | exact Cmp.ne | exact EvS.nil | apply EvS.cons (hs := by kernel_rfl!) | refine Ev.tup ?_ (by k_dflt exact Nat.le_of_ble_eq_true rfl) | apply Ev.callB (b_abs (by assumption) (by (refine EnvG.mk' ?_ ?_ ?_ <;> kernel_rfl!)) (by kernel_rfl!)) (h1 := by kernel_rfl!) | apply Ev.callB (b_max (by assumption) (by (refine EnvG.mk' ?_ ?_ ?_ <;> kernel_rfl!)) (by kernel_rfl!)) (h1 := by kernel_rfl!) | apply Ev.callB (b_min (by assumption) (by (refine EnvG.mk' ?_ ?_ ?_ <;> kernel_rfl!)) (by kernel_rfl!)) (h1 := by kernel_rfl!) | exact CallR.abs | exact CallR.max2 (by assumption) | exact CallR.min2 (by assumption)))) (hie ▸ CallR.intF hdc) (by kernel_rfl!)
  refine Ex.cons (Ex1.assign (d := .flt (hfF i h)) ?_ (by (first | (refine Wr.loc ?_ ?_ ?_ <;> kernel_rfl!) | (refine Wr.cell ?_ ?_ ?_ <;> kernel_rfl!))) (seqR_next ?_) (by kernel_rfl!))
  · exact Ev.bin (by (repeat' (with_reducible first | exact Ev.int | exact Ev.flt | exact Ev.str | exact Ev.name (by (repeat' (with_reducible first | exact upd_eq | assumption | refine upd_ne (by kernel_rfl!) ?_))) | apply Ev.bin | exact Bin.add | exact Bin.addF | exact Bin.subF | exact Bin.mulF | exact Bin.sub | exact Bin.mod (by k_dflt (first | with_reducible assumption | decide | omega)) | exact Bin.fdiv (by k_dflt (first | with_reducible assumption | decide | omega)) (fdiv_small (by k_dflt (first | with_reducible assumption | decide | omega))) | exact Bin.mul (IntMulOk.of_left (by k_dflt first | with_reducible assumption | decide)) | exact Bin.mul (IntMulOk.of_right (by k_dflt first | with_reducible assumption | decide)) | apply Ev.cmp (hm := by kernel_rfl!) | apply EvT.cmp (hm := by kernel_rfl!) | exact Cmp.lt | exact Cmp.gt | exact Cmp.le | exact Cmp.ge | exact Cmp.eq | exact Cmp.ne | exact EvS.nil | apply EvS.cons (hs := by kernel_rfl!) | refine Ev.tup ?_ (by k_dflt exact Nat.le_of_ble_eq_true rfl) | apply Ev.callB (b_abs (by assumption) (by (refine EnvG.mk' ?_ ?_ ?_ <;> kernel_rfl!)) (by kernel_rfl!)) (h1 := by kernel_rfl!) | apply Ev.callB (b_max (by assumption) (by (refine EnvG.mk' ?_ ?_ ?_ <;> kernel_rfl!)) (by kernel_rfl!)) (h1 := by kernel_rfl!) | apply Ev.callB (b_min (by assumption) (by (refine EnvG.mk' ?_ ?_ ?_ <;> kernel_rfl!)) (by kernel_rfl!)) (h1 := by kernel_rfl!) | exact CallR.abs | exact CallR.max2 (by assumption) | exact CallR.min2 (by assumption)))) (Ev.name (by (repeat' (with_reducible first | exact upd_eq | assumption | refine upd_ne (by kernel_rfl!) ?_)))) (Bin.subFI hi)
  refine Ex.cons (Ex1.assign (d := .flt (hpF s v)) ?_ (by (first | (refine Wr.loc ?_ ?_ ?_ <;> kernel_rfl!) | (refine Wr.cell ?_ ?_ ?_ <;> kernel_rfl!))) (seqR_next ?_) (by kernel_rfl!))
  · unfold hpF; (repeat' (with_reducible first | exact Ev.int | exact Ev.flt | exact Ev.str | exact Ev.name (by (repeat' (with_reducible first | exact upd_eq | assumption | refine upd_ne (by kernel_rfl!) ?_))) | apply Ev.bin | exact Bin.add | exact Bin.addF | exact Bin.subF | exact Bin.mulF | exact Bin.sub | exact Bin.mod (by k_dflt (first | with_reducible assumption | decide | omega)) | exact Bin.fdiv (by k_dflt (first | with_reducible assumption | decide | omega)) (fdiv_small (by k_dflt (first | with_reducible assumption | decide | omega))) | exact Bin.mul (IntMulOk.of_left (by k_dflt first | with_reducible assumption | decide)) | exact Bin.mul (IntMulOk.of_right (by k_dflt first | with_reducible assumption | decide)) | apply Ev.cmp (hm := by kernel_rfl!) | apply EvT.cmp (hm := by kernel_rfl!) | exact Cmp.lt | exact Cmp.gt | exact Cmp.le | exact Cmp.ge | exact Cmp.eq | exact Cmp.ne | exact EvS.nil | apply EvS.cons (hs := by kernel_rfl!) | refine Ev.tup ?_ (by k_dflt exact Nat.le_of_ble_eq_true rfl) | apply Ev.callB (b_abs (by assumption) (by (refine EnvG.mk' ?_ ?_ ?_ <;> kernel_rfl!)) (by kernel_rfl!)) (h1 := by kernel_rfl!) | apply Ev.callB (b_max (by assumption) (by (refine EnvG.mk' ?_ ?_ ?_ <;> kernel_rfl!)) (by kernel_rfl!)) (h1 := by kernel_rfl!) | apply Ev.callB (b_min (by assumption) (by (refine EnvG.mk' ?_ ?_ ?_ <;> kernel_rfl!)) (by kernel_rfl!)) (h1 := by kernel_rfl!) | exact CallR.abs | exact CallR.max2 (by assumption) | exact CallR.min2 (by assumption)))
  refine Ex.cons (Ex1.assign (d := .flt (hqF i h s v)) ?_ (by (first | (refine Wr.loc ?_ ?_ ?_ <;> kernel_rfl!) | (refine Wr.cell ?_ ?_ ?_ <;> kernel_rfl!))) (seqR_next ?_) (by kernel_rfl!))
  · unfold hqF; (repeat' (with_reducible first | exact Ev.int | exact Ev.flt | exact Ev.str | exact Ev.name (by (repeat' (with_reducible first | exact upd_eq | assumption | refine upd_ne (by kernel_rfl!) ?_))) | apply Ev.bin | exact Bin.add | exact Bin.addF | exact Bin.subF | exact Bin.mulF | exact Bin.sub | exact Bin.mod (by k_dflt (first | with_reducible assumption | decide | omega)) | exact Bin.fdiv (by k_dflt (first | with_reducible assumption | decide | omega)) (fdiv_small (by k_dflt (first | with_reducible assumption | decide | omega))) | exact Bin.mul (IntMulOk.of_left (by k_dflt first | with_reducible assumption | decide)) | exact Bin.mul (IntMulOk.of_right (by k_dflt first | with_reducible assumption | decide)) | apply Ev.cmp (hm := by kernel_rfl!) | apply EvT.cmp (hm := by kernel_rfl!) | exact Cmp.lt | exact Cmp.gt | exact Cmp.le | exact Cmp.ge | exact Cmp.eq | exact Cmp.ne | exact EvS.nil | apply EvS.cons (hs := by kernel_rfl!) | refine Ev.tup ?_ (by k_dflt exact Nat.le_of_ble_eq_true rfl) | apply Ev.callB (b_abs (by assumption) (by (refine EnvG.mk' ?_ ?_ ?_ <;> kernel_rfl!)) (by kernel_rfl!)) (h1 := by kernel_rfl!) | apply Ev.callB (b_max (by assumption) (by (refine EnvG.mk' ?_ ?_ ?_ <;> kernel_rfl!)) (by kernel_rfl!)) (h1 := by kernel_rfl!) | apply Ev.callB (b_min (by assumption) (by (refine EnvG.mk' ?_ ?_ ?_ <;> kernel_rfl!)) (by kernel_rfl!)) (h1 := by kernel_rfl!) | exact CallR.abs | exact CallR.max2 (by assumption) | exact CallR.min2 (by assumption)))
  refine Ex.cons (Ex1.assign (d := .flt (htF i h s v)) ?_ (by (first | (refine Wr.loc ?_ ?_ ?_ <;> kernel_rfl!) | (refine Wr.cell ?_ ?_ ?_ <;> kernel_rfl!))) (seqR_next ?_) (by kernel_rfl!))
  · unfold htF; (repeat' (with_reducible first | exact Ev.int | exact Ev.flt | exact Ev.str | exact Ev.name (by (repeat' (with_reducible first | exact upd_eq | assumption | refine upd_ne (by kernel_rfl!) ?_))) | apply Ev.bin | exact Bin.add | exact Bin.addF | exact Bin.subF | exact Bin.mulF | exact Bin.sub | exact Bin.mod (by k_dflt (first | with_reducible assumption | decide | omega)) | exact Bin.fdiv (by k_dflt (first | with_reducible assumption | decide | omega)) (fdiv_small (by k_dflt (first | with_reducible assumption | decide | omega))) | exact Bin.mul (IntMulOk.of_left (by k_dflt first | with_reducible assumption | decide)) | exact Bin.mul (IntMulOk.of_right (by k_dflt first | with_reducible assumption | decide)) | apply Ev.cmp (hm := by kernel_rfl!) | apply EvT.cmp (hm := by kernel_rfl!) | exact Cmp.lt | exact Cmp.gt | exact Cmp.le | exact Cmp.ge | exact Cmp.eq | exact Cmp.ne | exact EvS.nil | apply EvS.cons (hs := by kernel_rfl!) | refine Ev.tup ?_ (by k_dflt exact Nat.le_of_ble_eq_true rfl) | apply Ev.callB (b_abs (by assumption) (by (refine EnvG.mk' ?_ ?_ ?_ <;> kernel_rfl!)) (by kernel_rfl!)) (h1 := by kernel_rfl!) | apply Ev.callB (b_max (by assumption) (by (refine EnvG.mk' ?_ ?_ ?_ <;> kernel_rfl!)) (by kernel_rfl!)) (h1 := by kernel_rfl!) | apply Ev.callB (b_min (by assumption) (by (refine EnvG.mk' ?_ ?_ ?_ <;> kernel_rfl!)) (by kernel_rfl!)) (h1 := by kernel_rfl!) | exact CallR.abs | exact CallR.max2 (by assumption) | exact CallR.min2 (by assumption)))
  refine Ex.cons (Ex1.assign (d := .int (i.fmod 6)) ?_ (by (first | (refine Wr.loc ?_ ?_ ?_ <;> kernel_rfl!) | (refine Wr.cell ?_ ?_ ?_ <;> kernel_rfl!))) (seqR_next ?_) (by kernel_rfl!))
  · (repeat' (with_reducible first | exact Ev.int | exact Ev.flt | exact Ev.str | exact Ev.name (by (repeat' (with_reducible first | exact upd_eq | assumption | refine upd_ne (by kernel_rfl!) ?_))) | apply Ev.bin | exact Bin.add | exact Bin.addF | exact Bin.subF | exact Bin.mulF | exact Bin.sub | exact Bin.mod (by k_dflt (first | with_reducible assumption | decide | omega)) | exact Bin.fdiv (by k_dflt (first | with_reducible assumption | decide | omega)) (fdiv_small (by k_dflt (first | with_reducible assumption | decide | omega))) | exact Bin.mul (IntMulOk.of_left (by k_dflt first | with_reducible assumption | decide)) | exact Bin.mul (IntMulOk.of_right (by k_dflt first | with_reducible assumption | decide)) | apply Ev.cmp (hm := by kernel_rfl!) | apply EvT.cmp (hm := by kernel_rfl!) | exact Cmp.lt | exact Cmp.gt | exact Cmp.le | exact Cmp.ge | exact Cmp.eq | exact Cmp.ne | exact EvS.nil | apply EvS.cons (hs := by kernel_rfl!) | refine Ev.tup ?_ (by k_dflt exact Nat.le_of_ble_eq_true rfl) | apply Ev.callB (b_abs (by assumption) (by (refine EnvG.mk' ?_ ?_ ?_ <;> kernel_rfl!)) (by kernel_rfl!)) (h1 := by kernel_rfl!) | apply Ev.callB (b_max (by assumption) (by (refine EnvG.mk' ?_ ?_ ?_ <;> kernel_rfl!)) (by kernel_rfl!)) (h1 := by kernel_rfl!) | apply Ev.callB (b_min (by assumption) (by (refine EnvG.mk' ?_ ?_ ?_ <;> kernel_rfl!)) (by kernel_rfl!)) (h1 := by kernel_rfl!) | exact CallR.abs | exact CallR.max2 (by assumption) | exact CallR.min2 (by assumption)))
  refine Ex.cons (Ex1.ite (b := (i.fmod 6 == 0)) (by (repeat' (with_reducible first | exact Ev.int | exact Ev.flt | exact Ev.str | exact Ev.name (by (repeat' (with_reducible first | exact upd_eq | assumption | refine upd_ne (by kernel_rfl!) ?_))) | apply Ev.bin | exact Bin.add | exact Bin.addF | exact Bin.subF | exact Bin.mulF | exact Bin.sub | exact Bin.mod (by k_dflt (first | with_reducible assumption | decide | omega)) | exact Bin.fdiv (by k_dflt (first | with_reducible assumption | decide | omega)) (fdiv_small (by k_dflt (first | with_reducible assumption | decide | omega))) | exact Bin.mul (IntMulOk.of_left (by k_dflt first | with_reducible assumption | decide)) | exact Bin.mul (IntMulOk.of_right (by k_dflt first | with_reducible assumption | decide)) | apply Ev.cmp (hm := by kernel_rfl!) | apply EvT.cmp (hm := by kernel_rfl!) | exact Cmp.lt | exact Cmp.gt | exact Cmp.le | exact Cmp.ge | exact Cmp.eq | exact Cmp.ne | exact EvS.nil | apply EvS.cons (hs := by kernel_rfl!) | refine Ev.tup ?_ (by k_dflt exact Nat.le_of_ble_eq_true rfl) | apply Ev.callB (b_abs (by assumption) (by (refine EnvG.mk' ?_ ?_ ?_ <;> kernel_rfl!)) (by kernel_rfl!)) (h1 := by kernel_rfl!) | apply Ev.callB (b_max (by assumption) (by (refine EnvG.mk' ?_ ?_ ?_ <;> kernel_rfl!)) (by kernel_rfl!)) (h1 := by kernel_rfl!) | apply Ev.callB (b_min (by assumption) (by (refine EnvG.mk' ?_ ?_ ?_ <;> kernel_rfl!)) (by kernel_rfl!)) (h1 := by kernel_rfl!) | exact CallR.abs | exact CallR.max2 (by assumption) | exact CallR.min2 (by assumption)))) (fun q0 => Ex.cons (Ex1.ret (d := tri (hsvT i h s v)) ?_ (seqR_ret (seqR_ret rfl)))) fun q0 => ?_)
  · have e0 : i.fmod 6 = 0 := eq_of_beq q0
    have e' : hsvT i h s v = (v, htF i h s v, hpF s v) := by simp [hsvT, e0]
    rw [e']
    exact Ev.tup (by (repeat' (with_reducible first | exact Ev.int | exact Ev.flt | exact Ev.str | exact Ev.name (by (repeat' (with_reducible first | exact upd_eq | assumption | refine upd_ne (by kernel_rfl!) ?_))) | apply Ev.bin | exact Bin.add | exact Bin.addF | exact Bin.subF | exact Bin.mulF | exact Bin.sub | exact Bin.mod (by k_dflt (first | with_reducible assumption | decide | omega)) | exact Bin.fdiv (by k_dflt (first | with_reducible assumption | decide | omega)) (fdiv_small (by k_dflt (first | with_reducible assumption | decide | omega))) | exact Bin.mul (IntMulOk.of_left (by k_dflt first | with_reducible assumption | decide)) | exact Bin.mul (IntMulOk.of_right (by k_dflt first | with_reducible assumption | decide)) | apply Ev.cmp (hm := by kernel_rfl!) | apply EvT.cmp (hm := by kernel_rfl!) | exact Cmp.lt | exact Cmp.gt | exact Cmp.le | exact Cmp.ge | exact Cmp.eq | exact Cmp.ne | exact EvS.nil | apply EvS.cons (hs := by kernel_rfl!) | refine Ev.tup ?_ (by k_dflt exact Nat.le_of_ble_eq_true rfl) | apply Ev.callB (b_abs (by assumption) (by (refine EnvG.mk' ?_ ?_ ?_ <;> kernel_rfl!)) (by kernel_rfl!)) (h1 := by kernel_rfl!) | apply Ev.callB (b_max (by assumption) (by (refine EnvG.mk' ?_ ?_ ?_ <;> kernel_rfl!)) (by kernel_rfl!)) (h1 := by kernel_rfl!) | apply Ev.callB (b_min (by assumption) (by (refine EnvG.mk' ?_ ?_ ?_ <;> kernel_rfl!)) (by kernel_rfl!)) (h1 := by kernel_rfl!) | exact CallR.abs | exact CallR.max2 (by assumption) | exact CallR.min2 (by assumption)))) (Nat.le_of_ble_eq_true rfl)
  replace q0 : i.fmod 6 ≠ 0 := fun e => by rw [e] at q0; exact absurd q0 (by decide)
  refine Ex.nil (seqR_next ?_)
  refine Ex.cons (Ex1.ite (b := (i.fmod 6 == 1)) (by (repeat' (with_reducible first | exact Ev.int | exact Ev.flt | exact Ev.str | exact Ev.name (by (repeat' (with_reducible first | exact upd_eq | assumption | refine upd_ne (by kernel_rfl!) ?_))) | apply Ev.bin | exact Bin.add | exact Bin.addF | exact Bin.subF | exact Bin.mulF | exact Bin.sub | exact Bin.mod (by k_dflt (first | with_reducible assumption | decide | omega)) | exact Bin.fdiv (by k_dflt (first | with_reducible assumption | decide | omega)) (fdiv_small (by k_dflt (first | with_reducible assumption | decide | omega))) | exact Bin.mul (IntMulOk.of_left (by k_dflt first | with_reducible assumption | decide)) | exact Bin.mul (IntMulOk.of_right (by k_dflt first | with_reducible assumption | decide)) | apply Ev.cmp (hm := by kernel_rfl!) | apply EvT.cmp (hm := by kernel_rfl!) | exact Cmp.lt | exact Cmp.gt | exact Cmp.le | exact Cmp.ge | exact Cmp.eq | exact Cmp.ne | exact EvS.nil | apply EvS.cons (hs := by kernel_rfl!) | refine Ev.tup ?_ (by k_dflt exact Nat.le_of_ble_eq_true rfl) | apply Ev.callB (b_abs (by assumption) (by (refine EnvG.mk' ?_ ?_ ?_ <;> kernel_rfl!)) (by kernel_rfl!)) (h1 := by kernel_rfl!) | apply Ev.callB (b_max (by assumption) (by (refine EnvG.mk' ?_ ?_ ?_ <;> kernel_rfl!)) (by kernel_rfl!)) (h1 := by kernel_rfl!) | apply Ev.callB (b_min (by assumption) (by (refine EnvG.mk' ?_ ?_ ?_ <;> kernel_rfl!)) (by kernel_rfl!)) (h1 := by kernel_rfl!) | exact CallR.abs | exact CallR.max2 (by assumption) | exact CallR.min2 (by assumption)))) (fun q1 => Ex.cons (Ex1.ret (d := tri (hsvT i h s v)) ?_ (seqR_ret (seqR_ret rfl)))) fun q1 => ?_)
  · have e1 : i.fmod 6 = 1 := eq_of_beq q1
    have e' : hsvT i h s v = (hqF i h s v, v, hpF s v) := by simp [hsvT, e1]
    rw [e']
    exact Ev.tup (by (repeat' (with_reducible first | exact Ev.int | exact Ev.flt | exact Ev.str | exact Ev.name (by (repeat' (with_reducible first | exact upd_eq | assumption | refine upd_ne (by kernel_rfl!) ?_))) | apply Ev.bin | exact Bin.add | exact Bin.addF | exact Bin.subF | exact Bin.mulF | exact Bin.sub | exact Bin.mod (by k_dflt (first | with_reducible assumption | decide | omega)) | exact Bin.fdiv (by k_dflt (first | with_reducible assumption | decide | omega)) (fdiv_small (by k_dflt (first | with_reducible assumption | decide | omega))) | exact Bin.mul (IntMulOk.of_left (by k_dflt first | with_reducible assumption | decide)) | exact Bin.mul (IntMulOk.of_right (by k_dflt first | with_reducible assumption | decide)) | apply Ev.cmp (hm := by kernel_rfl!) | apply EvT.cmp (hm := by kernel_rfl!) | exact Cmp.lt | exact Cmp.gt | exact Cmp.le | exact Cmp.ge | exact Cmp.eq | exact Cmp.ne | exact EvS.nil | apply EvS.cons (hs := by kernel_rfl!) | refine Ev.tup ?_ (by k_dflt exact Nat.le_of_ble_eq_true rfl) | apply Ev.callB (b_abs (by assumption) (by (refine EnvG.mk' ?_ ?_ ?_ <;> kernel_rfl!)) (by kernel_rfl!)) (h1 := by kernel_rfl!) | apply Ev.callB (b_max (by assumption) (by (refine EnvG.mk' ?_ ?_ ?_ <;> kernel_rfl!)) (by kernel_rfl!)) (h1 := by kernel_rfl!) | apply Ev.callB (b_min (by assumption) (by (refine EnvG.mk' ?_ ?_ ?_ <;> kernel_rfl!)) (by kernel_rfl!)) (h1 := by kernel_rfl!) | exact CallR.abs | exact CallR.max2 (by assumption) | exact CallR.min2 (by assumption)))) (Nat.le_of_ble_eq_true rfl)
  replace q1 : i.fmod 6 ≠ 1 := fun e => by rw [e] at q1; exact absurd q1 (by decide)
  refine Ex.nil (seqR_next ?_)
  refine Ex.cons (Ex1.ite (b := (i.fmod 6 == 2)) (by (repeat' (with_reducible first | exact Ev.int | exact Ev.flt | exact Ev.str | exact Ev.name (by (repeat' (with_reducible first | exact upd_eq | assumption | refine upd_ne (by kernel_rfl!) ?_))) | apply Ev.bin | exact Bin.add | exact Bin.addF | exact Bin.subF | exact Bin.mulF | exact Bin.sub | exact Bin.mod (by k_dflt (first | with_reducible assumption | decide | omega)) | exact Bin.fdiv (by k_dflt (first | with_reducible assumption | decide | omega)) (fdiv_small (by k_dflt (first | with_reducible assumption | decide | omega))) | exact Bin.mul (IntMulOk.of_left (by k_dflt first | with_reducible assumption | decide)) | exact Bin.mul (IntMulOk.of_right (by k_dflt first | with_reducible assumption | decide)) | apply Ev.cmp (hm := by kernel_rfl!) | apply EvT.cmp (hm := by kernel_rfl!) | exact Cmp.lt | exact Cmp.gt | exact Cmp.le | exact Cmp.ge | exact Cmp.eq | exact Cmp.ne | exact EvS.nil | apply EvS.cons (hs := by kernel_rfl!) | refine Ev.tup ?_ (by k_dflt exact Nat.le_of_ble_eq_true rfl) | apply Ev.callB (b_abs (by assumption) (by (refine EnvG.mk' ?_ ?_ ?_ <;> kernel_rfl!)) (by kernel_rfl!)) (h1 := by kernel_rfl!) | apply Ev.callB (b_max (by assumption) (by (refine EnvG.mk' ?_ ?_ ?_ <;> kernel_rfl!)) (by kernel_rfl!)) (h1 := by kernel_rfl!) | apply Ev.callB (b_min (by assumption) (by (refine EnvG.mk' ?_ ?_ ?_ <;> kernel_rfl!)) (by kernel_rfl!)) (h1 := by kernel_rfl!) | exact CallR.abs | exact CallR.max2 (by assumption) | exact CallR.min2 (by assumption)))) (fun q2 => Ex.cons (Ex1.ret (d := tri (hsvT i h s v)) ?_ (seqR_ret (seqR_ret rfl)))) fun q2 => ?_)
  · have e2 : i.fmod 6 = 2 := eq_of_beq q2
    have e' : hsvT i h s v = (hpF s v, v, htF i h s v) := by simp [hsvT, e2]
    rw [e']
    exact Ev.tup (by (repeat' (with_reducible first | exact Ev.int | exact Ev.flt | exact Ev.str | exact Ev.name (by (repeat' (with_reducible first | exact upd_eq | assumption | refine upd_ne (by kernel_rfl!) ?_))) | apply Ev.bin | exact Bin.add | exact Bin.addF | exact Bin.subF | exact Bin.mulF | exact Bin.sub | exact Bin.mod (by k_dflt (first | with_reducible assumption | decide | omega)) | exact Bin.fdiv (by k_dflt (first | with_reducible assumption | decide | omega)) (fdiv_small (by k_dflt (first | with_reducible assumption | decide | omega))) | exact Bin.mul (IntMulOk.of_left (by k_dflt first | with_reducible assumption | decide)) | exact Bin.mul (IntMulOk.of_right (by k_dflt first | with_reducible assumption | decide)) | apply Ev.cmp (hm := by kernel_rfl!) | apply EvT.cmp (hm := by kernel_rfl!) | exact Cmp.lt | exact Cmp.gt | exact Cmp.le | exact Cmp.ge | exact Cmp.eq | exact Cmp.ne | exact EvS.nil | apply EvS.cons (hs := by kernel_rfl!) | refine Ev.tup ?_ (by k_dflt exact Nat.le_of_ble_eq_true rfl) | apply Ev.callB (b_abs (by assumption) (by (refine EnvG.mk' ?_ ?_ ?_ <;> kernel_rfl!)) (by kernel_rfl!)) (h1 := by kernel_rfl!) | apply Ev.callB (b_max (by assumption) (by (refine EnvG.mk' ?_ ?_ ?_ <;> kernel_rfl!)) (by kernel_rfl!)) (h1 := by kernel_rfl!) | apply Ev.callB (b_min (by assumption) (by (refine EnvG.mk' ?_ ?_ ?_ <;> kernel_rfl!)) (by kernel_rfl!)) (h1 := by kernel_rfl!) | exact CallR.abs | exact CallR.max2 (by assumption) | exact CallR.min2 (by assumption)))) (Nat.le_of_ble_eq_true rfl)
  replace q2 : i.fmod 6 ≠ 2 := fun e => by rw [e] at q2; exact absurd q2 (by decide)
  refine Ex.nil (seqR_next ?_)
  refine Ex.cons (Ex1.ite (b := (i.fmod 6 == 3)) (by (repeat' (with_reducible first | exact Ev.int | exact Ev.flt | exact Ev.str | exact Ev.name (by (repeat' (with_reducible first | exact upd_eq | assumption | refine upd_ne (by kernel_rfl!) ?_))) | apply Ev.bin | exact Bin.add | exact Bin.addF | exact Bin.subF | exact Bin.mulF | exact Bin.sub | exact Bin.mod (by k_dflt (first | with_reducible assumption | decide | omega)) | exact Bin.fdiv (by k_dflt (first | with_reducible assumption | decide | omega)) (fdiv_small (by k_dflt (first | with_reducible assumption | decide | omega))) | exact Bin.mul (IntMulOk.of_left (by k_dflt first | with_reducible assumption | decide)) | exact Bin.mul (IntMulOk.of_right (by k_dflt first | with_reducible assumption | decide)) | apply Ev.cmp (hm := by kernel_rfl!) | apply EvT.cmp (hm := by kernel_rfl!) | exact Cmp.lt | exact Cmp.gt | exact Cmp.le | exact Cmp.ge | exact Cmp.eq | exact Cmp.ne | exact EvS.nil | apply EvS.cons (hs := by kernel_rfl!) | refine Ev.tup ?_ (by k_dflt exact Nat.le_of_ble_eq_true rfl) | apply Ev.callB (b_abs (by assumption) (by (refine EnvG.mk' ?_ ?_ ?_ <;> kernel_rfl!)) (by kernel_rfl!)) (h1 := by kernel_rfl!) | apply Ev.callB (b_max (by assumption) (by (refine EnvG.mk' ?_ ?_ ?_ <;> kernel_rfl!)) (by kernel_rfl!)) (h1 := by kernel_rfl!) | apply Ev.callB (b_min (by assumption) (by (refine EnvG.mk' ?_ ?_ ?_ <;> kernel_rfl!)) (by kernel_rfl!)) (h1 := by kernel_rfl!) | exact CallR.abs | exact CallR.max2 (by assumption) | exact CallR.min2 (by assumption)))) (fun q3 => Ex.cons (Ex1.ret (d := tri (hsvT i h s v)) ?_ (seqR_ret (seqR_ret rfl)))) fun q3 => ?_)
  · have e3 : i.fmod 6 = 3 := eq_of_beq q3
    have e' : hsvT i h s v = (hpF s v, hqF i h s v, v) := by simp [hsvT, e3]
    rw [e']
    exact Ev.tup (by (repeat' (with_reducible first | exact Ev.int | exact Ev.flt | exact Ev.str | exact Ev.name (by (repeat' (with_reducible first | exact upd_eq | assumption | refine upd_ne (by kernel_rfl!) ?_))) | apply Ev.bin | exact Bin.add | exact Bin.addF | exact Bin.subF | exact Bin.mulF | exact Bin.sub | exact Bin.mod (by k_dflt (first | with_reducible assumption | decide | omega)) | exact Bin.fdiv (by k_dflt (first | with_reducible assumption | decide | omega)) (fdiv_small (by k_dflt (first | with_reducible assumption | decide | omega))) | exact Bin.mul (IntMulOk.of_left (by k_dflt first | with_reducible assumption | decide)) | exact Bin.mul (IntMulOk.of_right (by k_dflt first | with_reducible assumption | decide)) | apply Ev.cmp (hm := by kernel_rfl!) | apply EvT.cmp (hm := by kernel_rfl!) | exact Cmp.lt | exact Cmp.gt | exact Cmp.le | exact Cmp.ge | exact Cmp.eq | exact Cmp.ne | exact EvS.nil | apply EvS.cons (hs := by kernel_rfl!) | refine Ev.tup ?_ (by k_dflt exact Nat.le_of_ble_eq_true rfl) | apply Ev.callB (b_abs (by assumption) (by (refine EnvG.mk' ?_ ?_ ?_ <;> kernel_rfl!)) (by kernel_rfl!)) (h1 := by kernel_rfl!) | apply Ev.callB (b_max (by assumption) (by (refine EnvG.mk' ?_ ?_ ?_ <;> kernel_rfl!)) (by kernel_rfl!)) (h1 := by kernel_rfl!) | apply Ev.callB (b_min (by assumption) (by (refine EnvG.mk' ?_ ?_ ?_ <;> kernel_rfl!)) (by kernel_rfl!)) (h1 := by kernel_rfl!) | exact CallR.abs | exact CallR.max2 (by assumption) | exact CallR.min2 (by assumption)))) (Nat.le_of_ble_eq_true rfl)
  replace q3 : i.fmod 6 ≠ 3 := fun e => by rw [e] at q3; exact absurd q3 (by decide)
  refine Ex.nil (seqR_next ?_)
  refine Ex.cons (Ex1.ite (b := (i.fmod 6 == 4)) (by (repeat' (with_reducible first | exact Ev.int | exact Ev.flt | exact Ev.str | exact Ev.name (by (repeat' (with_reducible first | exact upd_eq | assumption | refine upd_ne (by kernel_rfl!) ?_))) | apply Ev.bin | exact Bin.add | exact Bin.addF | exact Bin.subF | exact Bin.mulF | exact Bin.sub | exact Bin.mod (by k_dflt (first | with_reducible assumption | decide | omega)) | exact Bin.fdiv (by k_dflt (first | with_reducible assumption | decide | omega)) (fdiv_small (by k_dflt (first | with_reducible assumption | decide | omega))) | exact Bin.mul (IntMulOk.of_left (by k_dflt first | with_reducible assumption | decide)) | exact Bin.mul (IntMulOk.of_right (by k_dflt first | with_reducible assumption | decide)) | apply Ev.cmp (hm := by kernel_rfl!) | apply EvT.cmp (hm := by kernel_rfl!) | exact Cmp.lt | exact Cmp.gt | exact Cmp.le | exact Cmp.ge | exact Cmp.eq | exact Cmp.ne | exact EvS.nil | apply EvS.cons (hs := by kernel_rfl!) | refine Ev.tup ?_ (by k_dflt exact Nat.le_of_ble_eq_true rfl) | apply Ev.callB (b_abs (by assumption) (by (refine EnvG.mk' ?_ ?_ ?_ <;> kernel_rfl!)) (by kernel_rfl!)) (h1 := by kernel_rfl!) | apply Ev.callB (b_max (by assumption) (by (refine EnvG.mk' ?_ ?_ ?_ <;> kernel_rfl!)) (by kernel_rfl!)) (h1 := by kernel_rfl!) | apply Ev.callB (b_min (by assumption) (by (refine EnvG.mk' ?_ ?_ ?_ <;> kernel_rfl!)) (by kernel_rfl!)) (h1 := by kernel_rfl!) | exact CallR.abs | exact CallR.max2 (by assumption) | exact CallR.min2 (by assumption)))) (fun q4 => Ex.cons (Ex1.ret (d := tri (hsvT i h s v)) ?_ (seqR_ret (seqR_ret rfl)))) fun q4 => ?_)
  · have e4 : i.fmod 6 = 4 := eq_of_beq q4
    have e' : hsvT i h s v = (htF i h s v, hpF s v, v) := by simp [hsvT, e4]
    rw [e']
    exact Ev.tup (by (repeat' (with_reducible first | exact Ev.int | exact Ev.flt | exact Ev.str | exact Ev.name (by (repeat' (with_reducible first | exact upd_eq | assumption | refine upd_ne (by kernel_rfl!) ?_))) | apply Ev.bin | exact Bin.add | exact Bin.addF | exact Bin.subF | exact Bin.mulF | exact Bin.sub | exact Bin.mod (by k_dflt (first | with_reducible assumption | decide | omega)) | exact Bin.fdiv (by k_dflt (first | with_reducible assumption | decide | omega)) (fdiv_small (by k_dflt (first | with_reducible assumption | decide | omega))) | exact Bin.mul (IntMulOk.of_left (by k_dflt first | with_reducible assumption | decide)) | exact Bin.mul (IntMulOk.of_right (by k_dflt first | with_reducible assumption | decide)) | apply Ev.cmp (hm := by kernel_rfl!) | apply EvT.cmp (hm := by kernel_rfl!) | exact Cmp.lt | exact Cmp.gt | exact Cmp.le | exact Cmp.ge | exact Cmp.eq | exact Cmp.ne | exact EvS.nil | apply EvS.cons (hs := by kernel_rfl!) | refine Ev.tup ?_ (by k_dflt exact Nat.le_of_ble_eq_true rfl) | apply Ev.callB (b_abs (by assumption) (by (refine EnvG.mk' ?_ ?_ ?_ <;> kernel_rfl!)) (by kernel_rfl!)) (h1 := by kernel_rfl!) | apply Ev.callB (b_max (by assumption) (by (refine EnvG.mk' ?_ ?_ ?_ <;> kernel_rfl!)) (by kernel_rfl!)) (h1 := by kernel_rfl!) | apply Ev.callB (b_min (by assumption) (by (refine EnvG.mk' ?_ ?_ ?_ <;> kernel_rfl!)) (by kernel_rfl!)) (h1 := by kernel_rfl!) | exact CallR.abs | exact CallR.max2 (by assumption) | exact CallR.min2 (by assumption)))) (Nat.le_of_ble_eq_true rfl)
  replace q4 : i.fmod 6 ≠ 4 := fun e => by rw [e] at q4; exact absurd q4 (by decide)
  refine Ex.nil (seqR_next ?_)
  refine Ex.cons (Ex1.ite (b := (i.fmod 6 == 5)) (by (repeat' (with_reducible first | exact Ev.int | exact Ev.flt | exact Ev.str | exact Ev.name (by (repeat' (with_reducible first | exact upd_eq | assumption | refine upd_ne (by kernel_rfl!) ?_))) | apply Ev.bin | exact Bin.add | exact Bin.addF | exact Bin.subF | exact Bin.mulF | exact Bin.sub | exact Bin.mod (by k_dflt (first | with_reducible assumption | decide | omega)) | exact Bin.fdiv (by k_dflt (first | with_reducible assumption | decide | omega)) (fdiv_small (by k_dflt (first | with_reducible assumption | decide | omega))) | exact Bin.mul (IntMulOk.of_left (by k_dflt first | with_reducible assumption | decide)) | exact Bin.mul (IntMulOk.of_right (by k_dflt first | with_reducible assumption | decide)) | apply Ev.cmp (hm := by kernel_rfl!) | apply EvT.cmp (hm := by kernel_rfl!) | exact Cmp.lt | exact Cmp.gt | exact Cmp.le | exact Cmp.ge | exact Cmp.eq | exact Cmp.ne | exact EvS.nil | apply EvS.cons (hs := by kernel_rfl!) | refine Ev.tup ?_ (by k_dflt exact Nat.le_of_ble_eq_true rfl) | apply Ev.callB (b_abs (by assumption) (by (refine EnvG.mk' ?_ ?_ ?_ <;> kernel_rfl!)) (by kernel_rfl!)) (h1 := by kernel_rfl!) | apply Ev.callB (b_max (by assumption) (by (refine EnvG.mk' ?_ ?_ ?_ <;> kernel_rfl!)) (by kernel_rfl!)) (h1 := by kernel_rfl!) | apply Ev.callB (b_min (by assumption) (by (refine EnvG.mk' ?_ ?_ ?_ <;> kernel_rfl!)) (by kernel_rfl!)) (h1 := by kernel_rfl!) | exact CallR.abs | exact CallR.max2 (by assumption) | exact CallR.min2 (by assumption)))) (fun q5 => Ex.cons (Ex1.ret (d := tri (hsvT i h s v)) ?_ (seqR_ret (seqR_ret rfl)))) fun q5 => ?_)
  · have e5 : i.fmod 6 = 5 := eq_of_beq q5
    have e' : hsvT i h s v = (v, hpF s v, hqF i h s v) := by simp [hsvT, e5]
    rw [e']
    exact Ev.tup (by (repeat' (with_reducible first | exact Ev.int | exact Ev.flt | exact Ev.str | exact Ev.name (by (repeat' (with_reducible first | exact upd_eq | assumption | refine upd_ne (by kernel_rfl!) ?_))) | apply Ev.bin | exact Bin.add | exact Bin.addF | exact Bin.subF | exact Bin.mulF | exact Bin.sub | exact Bin.mod (by k_dflt (first | with_reducible assumption | decide | omega)) | exact Bin.fdiv (by k_dflt (first | with_reducible assumption | decide | omega)) (fdiv_small (by k_dflt (first | with_reducible assumption | decide | omega))) | exact Bin.mul (IntMulOk.of_left (by k_dflt first | with_reducible assumption | decide)) | exact Bin.mul (IntMulOk.of_right (by k_dflt first | with_reducible assumption | decide)) | apply Ev.cmp (hm := by kernel_rfl!) | apply EvT.cmp (hm := by kernel_rfl!) | exact Cmp.lt | exact Cmp.gt | exact Cmp.le | exact Cmp.ge | exact Cmp.eq | exact Cmp.ne | exact EvS.nil | apply EvS.cons (hs := by kernel_rfl!) | refine Ev.tup ?_ (by k_dflt exact Nat.le_of_ble_eq_true rfl) | apply Ev.callB (b_abs (by assumption) (by (refine EnvG.mk' ?_ ?_ ?_ <;> kernel_rfl!)) (by kernel_rfl!)) (h1 := by kernel_rfl!) | apply Ev.callB (b_max (by assumption) (by (refine EnvG.mk' ?_ ?_ ?_ <;> kernel_rfl!)) (by kernel_rfl!)) (h1 := by kernel_rfl!) | apply Ev.callB (b_min (by assumption) (by (refine EnvG.mk' ?_ ?_ ?_ <;> kernel_rfl!)) (by kernel_rfl!)) (h1 := by kernel_rfl!) | exact CallR.abs | exact CallR.max2 (by assumption) | exact CallR.min2 (by assumption)))) (Nat.le_of_ble_eq_true rfl)
  replace q5 : i.fmod 6 ≠ 5 := fun e => by rw [e] at q5; exact absurd q5 (by decide)
  exfalso; omega

/-! part W5 -/
theorem n_hsv (P : Params) : nsIn (hd.heap_39 P) mainGlobals (Str.ofString "hsv_to_rgb") = some (some (.ref 28)) := by k_is
theorem keep_hsv (P : Params) : keepIn (hd.heap_39 P) (.ref 28) = true := by k_is
noncomputable def hF (a : Int) : UInt64 := Float64.ofFrac (decide (a < 0) != decide ((8 : Int) < 0)) a.natAbs (8 : Int).natAbs
noncomputable def vF (c : Int) : UInt64 := Float64.ofFrac (decide (c + 1 < 0) != decide ((4 : Int) < 0)) (c + 1).natAbs (4 : Int).natAbs
noncomputable def iOf (h : UInt64) : Int := match Float64.decode (Float64.mul h 4618441417868443648) with
  | .fin sg m e => Float64.truncOf sg m e
  | _ => 0
noncomputable def f16 (m : Nat) : UInt64 := Float64.ofFrac false m 16
noncomputable def ptA (a c : Int) : Int :=
  if (if 8 - (if 24 - (if 3 * a - c < 0 then -(3 * a - c) else 3 * a - c) < (if 3 * a - c < 0 then -(3 * a - c) else 3 * a - c) then 24 - (if 3 * a - c < 0 then -(3 * a - c) else 3 * a - c) else (if 3 * a - c < 0 then -(3 * a - c) else 3 * a - c)) < 4 then 8 - (if 24 - (if 3 * a - c < 0 then -(3 * a - c) else 3 * a - c) < (if 3 * a - c < 0 then -(3 * a - c) else 3 * a - c) then 24 - (if 3 * a - c < 0 then -(3 * a - c) else 3 * a - c) else (if 3 * a - c < 0 then -(3 * a - c) else 3 * a - c)) else 4) > 0
  then (if 8 - (if 24 - (if 3 * a - c < 0 then -(3 * a - c) else 3 * a - c) < (if 3 * a - c < 0 then -(3 * a - c) else 3 * a - c) then 24 - (if 3 * a - c < 0 then -(3 * a - c) else 3 * a - c) else (if 3 * a - c < 0 then -(3 * a - c) else 3 * a - c)) < 4 then 8 - (if 24 - (if 3 * a - c < 0 then -(3 * a - c) else 3 * a - c) < (if 3 * a - c < 0 then -(3 * a - c) else 3 * a - c) then 24 - (if 3 * a - c < 0 then -(3 * a - c) else 3 * a - c) else (if 3 * a - c < 0 then -(3 * a - c) else 3 * a - c)) else 4) else 0
theorem ptF_A (n c : Int) : ptF n c = ptA (n.fmod 8) c := rfl
theorem lamp_dec : ∀ a : Fin 8, (match Float64.decode (Float64.mul (hF a.val) 4618441417868443648) with | .fin sg m e => decide ((Float64.truncOf sg m e).natAbs < 2 ^ 1023) | _ => false) = true := by decide +kernel
theorem lamp_val : ∀ a : Fin 8, ∀ c : Fin 4, hsvT (iOf (hF a.val)) (hF a.val) 4607182418800017408 (vF c.val) = (f16 (ptA a.val 0 * (c.val + 1)).toNat, f16 (ptA a.val 8 * (c.val + 1)).toNat, f16 (ptA a.val 16 * (c.val + 1)).toNat) := by decide +kernel
theorem div_fin : ∀ a : Fin 8, (Float64.isInf (hF a.val)) = false := by decide +kernel
theorem div_finv : ∀ a : Fin 4, (Float64.isInf (vF a.val)) = false := by decide +kernel
noncomputable def lampL (n : Int) : List Nat := [(ptF n 0 * ((n.fdiv 8).fmod 4 + 1)).toNat, (ptF n 8 * ((n.fdiv 8).fmod 4 + 1)).toNat, (ptF n 16 * ((n.fdiv 8).fmod 4 + 1)).toNat]
noncomputable def lampD (n : Int) : D := .tup ((lampL n).map fun m => .flt (f16 m))
set_option maxHeartbeats 400000 in
theorem lamp_fn {Γ : G} {k : Nat} (S : Site Γ (k + 2)) (n : Int) : CallR Γ (.ref 112) [.int n] (lampD n) := by
  obtain ⟨a, ha⟩ : ∃ a : Fin 8, n.fmod 8 = (a.val : Int) := by
    have h1 : 0 ≤ n.fmod 8 := Int.fmod_nonneg_of_pos n (by decide)
    have h2 : n.fmod 8 < 8 := Int.fmod_lt_of_pos n (by decide)
    exact ⟨⟨(n.fmod 8).toNat, by omega⟩, by simp; omega⟩
  obtain ⟨c, hc⟩ : ∃ c : Fin 4, (n.fdiv 8).fmod 4 = (c.val : Int) := by
    have h1 : 0 ≤ (n.fdiv 8).fmod 4 := Int.fmod_nonneg_of_pos _ (by decide)
    have h2 : (n.fdiv 8).fmod 4 < 4 := Int.fmod_lt_of_pos _ (by decide)
    exact ⟨⟨((n.fdiv 8).fmod 4).toNat, by omega⟩, by simp; omega⟩
  have hl : lampD n = tri (hsvT (iOf (hF a.val)) (hF a.val) 4607182418800017408 (vF c.val)) := by
    rw [lamp_val a c]
    simp only [lampD, lampL, tri, ptF_A, ha, hc, List.map]
  rw [hl]
  have hdec := lamp_dec a
  have hi : ∃ sg m e, Float64.decode (Float64.mul (hF a.val) 4618441417868443648) = .fin sg m e ∧ (Float64.truncOf sg m e).natAbs < 2 ^ 1023 ∧ iOf (hF a.val) = Float64.truncOf sg m e := by
    unfold iOf
    cases hq : Float64.decode (Float64.mul (hF a.val) 4618441417868443648) with
    | fin sg m e => rw [hq] at hdec; exact ⟨sg, m, e, rfl, of_decide_eq_true hdec, rfl⟩
    | _ => rw [hq] at hdec; cases hdec
  obtain ⟨sg, m, e, hd1, hd2, hd3⟩ := hi
  rw [hd3]
  k_dflt (refine' Fn.enter (ps := [Str.ofString "number"]) ?ho ?hcd ?hb ?hl ?hk ?c1 ?c2 ?c3 S ?body)
  case ho => intro P; k_is
  case hcd => intro P; k_is
  case hb => exact vs1 rfl fun _ => rfl
  case hl => rfl
  case hk => exact ⟨⟨by first | exact .inl ⟨by kernel_rfl!, fun n => by kernel_rfl!⟩ | exact .inr ⟨by kernel_rfl!, fun n => by kernel_rfl!⟩, by decide⟩, trivial⟩
  case c1 => rfl
  case c2 => rfl
  case c3 => rfl
  intro Γ' S' h0
  have p1 : parS [Str.ofString "number"] [(.int n)] (Str.ofString "number") = some (.imm (.int n)) := by kernel_rfl!
  generalize parS [Str.ofString "number"] [(.int n)] = σ at p1
  refine Ex.cons (Ex1.ret (Ev.callF S' (Glb.fn S' (by (refine EnvG.mk' ?_ ?_ ?_ <;> kernel_rfl!)) n_hsv (by kernel_rfl!) (by decide)) keep_hsv (ds := [.flt (hF a.val), .flt 4607182418800017408, .flt (vF c.val)]) (EvS.cons ?_ (EvS.cons Ev.flt (EvS.cons ?_ EvS.nil (by kernel_rfl!)) (by kernel_rfl!)) (by kernel_rfl!)) (hsv_fn S' (by decide +kernel) hd1 hd2) (by kernel_rfl!)) (seqR_ret rfl))
  · refine Ev.bin (d₁ := .int a.val) (d₂ := .int 8) (Ev.of_eq (d := .int (n.fmod 8)) (by (repeat' (with_reducible first | exact Ev.int | exact Ev.flt | exact Ev.str | exact Ev.name (by (repeat' (with_reducible first | exact upd_eq | assumption | refine upd_ne (by kernel_rfl!) ?_))) | apply Ev.bin | exact Bin.add | exact Bin.addF | exact Bin.subF | exact Bin.mulF | exact Bin.sub | exact Bin.mod (by k_dflt (first | with_reducible assumption | decide | omega)) | exact Bin.fdiv (by k_dflt (first | with_reducible assumption | decide | omega)) (fdiv_small (by k_dflt (first | with_reducible assumption | decide | omega))) | exact Bin.mul (IntMulOk.of_left (by k_dflt first | with_reducible assumption | decide)) | exact Bin.mul (IntMulOk.of_right (by k_dflt first | with_reducible assumption | decide)) | apply Ev.cmp (hm := by kernel_rfl!) | apply EvT.cmp (hm := by kernel_rfl!) | exact Cmp.lt | exact Cmp.gt | exact Cmp.le | exact Cmp.ge | exact Cmp.eq | exact Cmp.ne | exact EvS.nil | apply EvS.cons (hs := by kernel_rfl!) | refine Ev.tup ?_ (by k_dflt exact Nat.le_of_ble_eq_true rfl) | apply Ev.callB (b_abs (by assumption) (by (refine EnvG.mk' ?_ ?_ ?_ <;> kernel_rfl!)) (by kernel_rfl!)) (h1 := by kernel_rfl!) | apply Ev.callB (b_max (by assumption) (by (refine EnvG.mk' ?_ ?_ ?_ <;> kernel_rfl!)) (by kernel_rfl!)) (h1 := by kernel_rfl!) | apply Ev.callB (b_min (by assumption) (by (refine EnvG.mk' ?_ ?_ ?_ <;> kernel_rfl!)) (by kernel_rfl!)) (h1 := by kernel_rfl!) | exact CallR.abs | exact CallR.max2 (by assumption) | exact CallR.min2 (by assumption)))) (by rw [ha])) Ev.int (Bin.div (by decide) ?_)
    have := div_fin a
    unfold hF at this
    rw [this]; decide
  · refine Ev.bin (d₁ := .int (c.val + 1)) (d₂ := .int 4) (Ev.of_eq (d := .int ((n.fdiv 8).fmod 4 + 1)) (by (repeat' (with_reducible first | exact Ev.int | exact Ev.flt | exact Ev.str | exact Ev.name (by (repeat' (with_reducible first | exact upd_eq | assumption | refine upd_ne (by kernel_rfl!) ?_))) | apply Ev.bin | exact Bin.add | exact Bin.addF | exact Bin.subF | exact Bin.mulF | exact Bin.sub | exact Bin.mod (by k_dflt (first | with_reducible assumption | decide | omega)) | exact Bin.fdiv (by k_dflt (first | with_reducible assumption | decide | omega)) (fdiv_small (by k_dflt (first | with_reducible assumption | decide | omega))) | exact Bin.mul (IntMulOk.of_left (by k_dflt first | with_reducible assumption | decide)) | exact Bin.mul (IntMulOk.of_right (by k_dflt first | with_reducible assumption | decide)) | apply Ev.cmp (hm := by kernel_rfl!) | apply EvT.cmp (hm := by kernel_rfl!) | exact Cmp.lt | exact Cmp.gt | exact Cmp.le | exact Cmp.ge | exact Cmp.eq | exact Cmp.ne | exact EvS.nil | apply EvS.cons (hs := by kernel_rfl!) | refine Ev.tup ?_ (by k_dflt exact Nat.le_of_ble_eq_true rfl) | apply Ev.callB (b_abs (by assumption) (by (refine EnvG.mk' ?_ ?_ ?_ <;> kernel_rfl!)) (by kernel_rfl!)) (h1 := by kernel_rfl!) | apply Ev.callB (b_max (by assumption) (by (refine EnvG.mk' ?_ ?_ ?_ <;> kernel_rfl!)) (by kernel_rfl!)) (h1 := by kernel_rfl!) | apply Ev.callB (b_min (by assumption) (by (refine EnvG.mk' ?_ ?_ ?_ <;> kernel_rfl!)) (by kernel_rfl!)) (h1 := by kernel_rfl!) | exact CallR.abs | exact CallR.max2 (by assumption) | exact CallR.min2 (by assumption)))) (by rw [hc])) Ev.int (Bin.div (by decide) ?_)
    have := div_finv c
    unfold vF at this
    rw [this]; decide

/-! part W6 -/
noncomputable def motF (n : Nat) (s : Int) : List Nat := (List.range n).filter fun y : Nat => Builtin.bitAnd (s.fdiv (2 ^ ((0 : Int) + y).toNat)) 1 != 0
noncomputable def okF (bs : List Int) (s : Int) : Bool := ((motF bs.length s).map fun y : Nat => Builtin.bitAnd (bs.getD y 0) s != 0).all id
noncomputable def roundsAt (bs : List Int) : Nat → List Int
  | 0 => []
  | i + 1 => if okF bs (1 + (i : Int)) then roundsAt bs i ++ [((motF bs.length (1 + (i : Int))).length : Int)] else roundsAt bs i
noncomputable def roundsF (bs : List Int) : List Int := roundsAt bs (2 ^ bs.length - 1)
theorem roundsAt_len (bs : List Int) : ∀ i, (roundsAt bs i).length ≤ i
  | 0 => Nat.le_refl _
  | i + 1 => by
    unfold roundsAt
    split
    · rw [List.length_append]; exact Nat.succ_le_succ (roundsAt_len bs i)
    · exact Nat.le_succ_of_le (roundsAt_len bs i)
set_option maxHeartbeats 400000 in
theorem rounds_fn {Γ : G} {k : Nat} (S : Site Γ (k + 1)) (bs : List Int) (hb : bs.length ≤ 5) : CallR Γ (.ref 146) [.lst (intL bs)] (.lst (intL (roundsF bs))) := by
  have hpow : 2 ^ bs.length ≤ 32 := Nat.pow_le_pow_right (by decide) hb
  have hpos : 1 ≤ 2 ^ bs.length := Nat.one_le_two_pow
  k_dflt (refine' Fn.enter (ps := [Str.ofString "beaten"]) ?ho ?hcd ?hb ?hl ?hk ?c1 ?c2 ?c3 S ?body)
  case ho => intro P; k_is
  case hcd => intro P; k_is
  case hb => exact vs1 rfl fun _ => rfl
  case hl => rfl
  case hk => exact ⟨⟨by first | exact .inl ⟨by kernel_rfl!, fun n => by kernel_rfl!⟩ | exact .inr ⟨by kernel_rfl!, fun n => by kernel_rfl!⟩, by decide⟩, trivial⟩
  case c1 => rfl
  case c2 => rfl
  case c3 => rfl
  intro Γ' S' h0
  have p1 : parS [Str.ofString "beaten"] [(.lst (intL bs))] (Str.ofString "beaten") = some (.imm (.lst (intL bs))) := by kernel_rfl!
  generalize parS [Str.ofString "beaten"] [(.lst (intL bs))] = σ at p1
  refine Ex.cons (Ex1.assignN (ds := []) (EvN.lst EvS.nil (by decide)) (by (first | (refine Wr.loc ?_ ?_ ?_ <;> kernel_rfl!) | (refine Wr.cell ?_ ?_ ?_ <;> kernel_rfl!))) (seqR_next ?_) (by kernel_rfl!))
  refine Ex.cons (Ex1.loop (items := rng 1 (2 ^ bs.length - 1)) (fun i σ => σ (Str.ofString "beaten") = some (.imm (.lst (intL bs))) ∧ σ (Str.ofString "rounds") = some (.own (intL (roundsAt bs i)))) (Src.range2 (b := 2 ^ (bs.length : Int).toNat) S' (b_range S' (by (refine EnvG.mk' ?_ ?_ ?_ <;> kernel_rfl!)) (by kernel_rfl!)) Ev.int ?hi (by decide) ?he ?hl (by kernel_rfl!)) ⟨by (repeat' (with_reducible first | exact upd_eq | assumption | refine upd_ne (by kernel_rfl!) ?_)), upd_eq⟩ ?step ?done (by kernel_rfl!))
  case hi => exact Ev.bin Ev.int (Ev.lenName S' (by (refine EnvG.mk' ?_ ?_ ?_ <;> kernel_rfl!)) (by kernel_rfl!) (EvL.of (Ev.name (by (repeat' (with_reducible first | exact upd_eq | assumption | refine upd_ne (by kernel_rfl!) ?_))))) (List.length_map _) (by omega)) (Bin.pow (by omega) (pow2_ok (by omega)))
  case he => rw [Int.toNat_natCast, pow_cast]; omega
  case hl =>
    rw [Int.toNat_natCast, pow_cast]; omega
  case done =>
    rintro σ' ⟨h1, h2⟩
    rw [List.length_map, List.length_range] at h2
    exact seqR_next (Ex.freeze (Str.ofString "rounds") h2 h0 (Ex.cons (Ex1.ret (Ev.name upd_eq) (seqR_ret rfl))))
  case step =>
    rintro i d σ' hd ⟨h1, h2⟩
    have hi : i < 2 ^ bs.length - 1 := by
      rcases Nat.lt_or_ge i (2 ^ bs.length - 1) with h | h
      · exact h
      · rw [List.getElem?_eq_none (by rw [List.length_map, List.length_range]; exact h)] at hd; cases hd
    rw [List.getElem?_map, List.getElem?_range hi] at hd
    cases hd
    refine ⟨_, Asg.name (by (first | (refine Wr.loc ?_ ?_ ?_ <;> kernel_rfl!) | (refine Wr.cell ?_ ?_ ?_ <;> kernel_rfl!))), ?_⟩
    refine Ex.cons (Ex1.assignComp S' (l := List.range bs.length) (gt := fun i : Nat => .int (0 + i)) (fr := [Str.ofString "some"]) (cl := [(Str.ofString "some", Γ'.L + 1 + 1)]) (fun y : Nat => Builtin.bitAnd ((1 + (i : Int)).fdiv (2 ^ ((0 : Int) + y).toNat)) 1 != 0) (fun y : Nat => .int (0 + y)) (Src.range1 S' (b_range S' (by (refine EnvG.mk' ?_ ?_ ?_ <;> kernel_rfl!)) (by kernel_rfl!)) (Ev.lenName S' (by (refine EnvG.mk' ?_ ?_ ?_ <;> kernel_rfl!)) (by kernel_rfl!) (EvL.of (Ev.name (by (repeat' (with_reducible first | exact upd_eq | assumption | refine upd_ne (by kernel_rfl!) ?_))))) (List.length_map _) (by omega)) (by omega) (by kernel_rfl!)) ?cok1 (fun y _ C => EvIf.one ?tst) (fun y _ _ C => Ev.name compS_x) (by kernel_rfl!) (by (first | (refine Wr.loc ?_ ?_ ?_ <;> kernel_rfl!) | (refine Wr.cell ?_ ?_ ?_ <;> kernel_rfl!))) (seqR_next ?_) (by rw [List.length_range]; exact Nat.le_trans hb (by decide)) (by kernel_rfl!))
    case cok1 =>
      refine ⟨by kernel_rfl!, by kernel_rfl!, by decide, fun C => .inl ⟨by kernel_rfl!, by kernel_rfl!⟩, by kernel_rfl!, fun C y hy => ?_⟩
      rw [List.mem_singleton.mp hy]
      exact ⟨Γ'.L + 1 + 1, by kernel_rfl!, by kernel_rfl!, .inl (by kernel_rfl!), by kernel_rfl!, by kernel_rfl!⟩
    case tst => exact EvT.of (Ev.bin (Ev.bin (Ev.name (compS_y (by kernel_rfl!) (by kernel_rfl!) upd_eq)) (Ev.name compS_x) (Bin.shr (by omega))) Ev.int Bin.and) Tru.int (by kernel_rfl!)
    have hm : ∀ y ∈ motF bs.length (1 + (i : Int)), y < bs.length := fun y hy => List.mem_range.mp (List.mem_filter.mp hy).1
    have hml : (motF bs.length (1 + (i : Int))).length ≤ bs.length := by
      have := List.length_filter_le (fun y : Nat => Builtin.bitAnd ((1 + (i : Int)).fdiv (2 ^ ((0 : Int) + y).toNat)) 1 != 0) (List.range bs.length)
      rw [List.length_range] at this; exact this
    refine Ex.cons (Ex1.ite (b := okF bs (1 + (i : Int))) (EvT.of (Ev.callB (b_all S' (by (refine EnvG.mk' ?_ ?_ ?_ <;> kernel_rfl!)) (by kernel_rfl!)) (EvS.cons (Ev.of_eq (d' := .lst (boolL ((motF bs.length (1 + (i : Int))).map fun y : Nat => Builtin.bitAnd (bs.getD y 0) (1 + (i : Int)) != 0))) (Ev.comp S' (l := motF bs.length (1 + (i : Int))) (gt := fun i : Nat => .int (0 + i)) (fr := [Str.ofString "beaten", Str.ofString "some"]) (cl := [(Str.ofString "some", Γ'.L + 1 + 1), (Str.ofString "beaten", Γ'.L + 1)]) (fun _ => true) (fun y : Nat => .bool (Builtin.bitAnd (bs.getD y 0) (1 + (i : Int)) != 0)) (Src.list S' (Ev.name upd_eq)) ?cok2 (fun y _ C => EvIf.nil) (fun y hy _ C => ?elt) (Nat.le_trans hml (Nat.le_trans hb (by decide))) (by kernel_rfl!)) ?eqd) EvS.nil (by kernel_rfl!)) (CallR.all S') (by kernel_rfl!)) Tru.bool (by kernel_rfl!)) (fun q => ?yes) fun q => ?no)
    case cok2 =>
      refine ⟨by kernel_rfl!, by kernel_rfl!, by decide, fun C => .inl ⟨by kernel_rfl!, by kernel_rfl!⟩, by kernel_rfl!, fun C y hy => ?_⟩
      rcases List.mem_cons.mp hy with rfl | hy
      · exact ⟨Γ'.L + 1, by kernel_rfl!, by kernel_rfl!, .inl (by kernel_rfl!), by kernel_rfl!, by kernel_rfl!⟩
      · rw [List.mem_singleton.mp hy]
        exact ⟨Γ'.L + 1 + 1, by kernel_rfl!, by kernel_rfl!, .inl (by kernel_rfl!), by kernel_rfl!, by kernel_rfl!⟩
    case eqd => rw [pv_filter_true]; simp [boolL, Function.comp_def]
    case elt =>
      have hy' := hm y hy
      refine Ev.cmp (Ev.bin (Ev.item (EvL.of (Ev.name (compS_y (by kernel_rfl!) (by kernel_rfl!) (by (repeat' (with_reducible first | exact upd_eq | assumption | refine upd_ne (by kernel_rfl!) ?_)))))) (Ev.name compS_x) (by omega) (by omega) ?_ (by kernel_rfl!)) (Ev.name (compS_y (by kernel_rfl!) (by kernel_rfl!) (by (repeat' (with_reducible first | exact upd_eq | assumption | refine upd_ne (by kernel_rfl!) ?_))))) Bin.and) Ev.int Cmp.ne (by kernel_rfl!)
      rw [show ((0 : Int) + (y : Int)).toNat = y by omega]
      exact intL_getD hy'
    case yes =>
      refine Ex.cons (Ex1.append (ds := intL (roundsAt bs i)) (d := .int ((motF bs.length (1 + (i : Int))).length)) (by (repeat' (with_reducible first | exact upd_eq | assumption | refine upd_ne (by kernel_rfl!) ?_))) ?_ ?_ (seqR_next (Ex.nil (seqR_next (Ex.nil (loopR_next ⟨by (repeat' (with_reducible first | exact upd_eq | assumption | refine upd_ne (by kernel_rfl!) ?_)), ?_⟩))))) (by kernel_rfl!) (by kernel_rfl!) (by kernel_rfl!))
      · refine Ev.lenName S' (by (refine EnvG.mk' ?_ ?_ ?_ <;> kernel_rfl!)) (by kernel_rfl!) (EvL.of (Ev.name upd_eq)) ?_ (by omega)
        rw [List.length_map]; rfl
      · rw [List.length_map]; exact Nat.le_trans (roundsAt_len bs i) (Nat.le_trans (by omega : i ≤ 32) (by decide))
      · have e : intL (roundsAt bs (i + 1)) = intL (roundsAt bs i) ++ [.int ((motF bs.length (1 + (i : Int))).length)] := by
          rw [roundsAt, if_pos q, intL, List.map_append]; rfl
        rw [e]
        exact upd_eq
    case no =>
      refine Ex.nil (seqR_next (Ex.nil (loopR_next ⟨by (repeat' (with_reducible first | exact upd_eq | assumption | refine upd_ne (by kernel_rfl!) ?_)), ?_⟩)))
      have e : roundsAt bs (i + 1) = roundsAt bs i := by rw [roundsAt, if_neg (by rw [q]; decide)]
      rw [e]
      (repeat' (with_reducible first | exact upd_eq | assumption | refine upd_ne (by kernel_rfl!) ?_))

/-! part W7 -/
noncomputable abbrev T3 := Nat × Nat × Nat
noncomputable def t3D (t : T3) : D := .tup [.flt (f16 t.1), .flt (f16 t.2.1), .flt (f16 t.2.2)]
noncomputable def t3add (t o : T3) : T3 := (o.1 + t.1, o.2.1 + t.2.1, o.2.2 + t.2.2)
noncomputable def sumsT (ts : List T3) : List T3 := ts.foldl (fun s t => s ++ s.map (t3add t)) [(0, 0, 0)]
noncomputable def w3 (t : T3) : Int := 30 * t.1 + 59 * t.2.1 + 11 * t.2.2
theorem add16 : ∀ a : Fin 65, ∀ b : Fin 17, Float64.add (f16 a.val) (f16 b.val) = f16 (a.val + b.val) := by decide +kernel
theorem add16' {a b : Nat} (ha : a ≤ 64) (hb : b ≤ 16) : Float64.add (f16 a) (f16 b) = f16 (a + b) := add16 ⟨a, by omega⟩ ⟨b, by omega⟩
theorem sumsT_len (ws : List T3) : (sumsT ws).length = 2 ^ ws.length := by
  have : ∀ (ws s : List T3), (ws.foldl (fun s t => s ++ s.map (t3add t)) s).length = s.length * 2 ^ ws.length := by
    intro ws
    induction ws with
    | nil => intro s; simp
    | cons w r ih => intro s; rw [List.foldl_cons, ih, List.length_append, List.length_map, List.length_cons, Nat.pow_succ]; rw [Nat.mul_comm (2 ^ r.length) 2, ← Nat.mul_assoc]; congr 1; omega
  rw [sumsT, this]; simp
theorem sumsT_take (ws : List T3) {i : Nat} {w : T3} (h : ws[i]? = some w) : sumsT (ws.take (i + 1)) = sumsT (ws.take i) ++ (sumsT (ws.take i)).map (t3add w) := by
  unfold sumsT
  rw [List.take_add_one, h]
  simp [List.foldl_append]
noncomputable def Le3 (n : Nat) (t : T3) : Prop := t.1 ≤ n ∧ t.2.1 ≤ n ∧ t.2.2 ≤ n
theorem sumsT_le (ws : List T3) (h : ∀ t ∈ ws, Le3 16 t) : ∀ i, i ≤ ws.length → ∀ t ∈ sumsT (ws.take i), Le3 (16 * i) t
  | 0, _, t, ht => by
    have : t = (0, 0, 0) := by simpa [sumsT] using ht
    subst this; exact ⟨Nat.le_refl _, Nat.le_refl _, Nat.le_refl _⟩
  | i + 1, hi, t, ht => by
    have hw : ws[i]? = some ws[i] := List.getElem?_eq_getElem (by omega)
    rw [sumsT_take ws hw, List.mem_append] at ht
    rcases ht with ht | ht
    · obtain ⟨a, b, c⟩ := sumsT_le ws h i (by omega) t ht
      exact ⟨by omega, by omega, by omega⟩
    · obtain ⟨o, ho, rfl⟩ := List.mem_map.mp ht
      obtain ⟨a, b, c⟩ := sumsT_le ws h i (by omega) o ho
      obtain ⟨a', b', c'⟩ := h _ (List.getElem_mem (by omega : i < ws.length))
      exact ⟨by show o.1 + ws[i].1 ≤ _; omega, by show o.2.1 + ws[i].2.1 ≤ _; omega, by show o.2.2 + ws[i].2.2 ≤ _; omega⟩
noncomputable def lightX (t : T3) : UInt64 := Float64.mul (Float64.ofInt 1600) (yF (f16 t.1) (f16 t.2.1) (f16 t.2.2))
/-- what the floats must do: a plain fact, proved elsewhere -/
noncomputable def RoundsTo (t : T3) : Prop := Float64.isFinite (lightX t) = true ∧ Float64.isNaN (lightX t) = false ∧ Float64.isInf (lightX t) = false ∧ PySem.Flt.toInt Float64.nearestOf (lightX t) = w3 t
theorem z16' : f16 0 = 0 := by decide +kernel
theorem z16 : D.lst [.tup [.flt 0, .flt 0, .flt 0]] = D.lst [t3D (0, 0, 0)] := by unfold t3D; rw [z16']
theorem n_yiq (P : Params) : nsIn (hd.heap_39 P) mainGlobals (Str.ofString "rgb_to_yiq") = some (some (.ref 21)) := by k_is
theorem keep_yiq (P : Params) : keepIn (hd.heap_39 P) (.ref 21) = true := by k_is
set_option maxHeartbeats 400000 in
theorem lights_fn {Γ : G} {k : Nat} (S : Site Γ (k + 2)) (ts : List T3) (hn : ts.length ≤ 5) (h16 : ∀ t ∈ ts, Le3 16 t) (hR : ∀ t, Le3 80 t → RoundsTo t) : CallR Γ (.ref 131) [.lst (ts.map t3D)] (.lst (intL ((sumsT ts).map w3))) := by
  k_dflt (refine' Fn.enter (ps := [Str.ofString "lamps"]) ?ho ?hcd ?hb ?hl ?hk ?c1 ?c2 ?c3 S ?body)
  case ho => intro P; k_is
  case hcd => intro P; k_is
  case hb => exact vs1 rfl fun _ => rfl
  case hl => rfl
  case hk => exact ⟨⟨by first | exact .inl ⟨by kernel_rfl!, fun n => by kernel_rfl!⟩ | exact .inr ⟨by kernel_rfl!, fun n => by kernel_rfl!⟩, by decide⟩, trivial⟩
  case c1 => rfl
  case c2 => rfl
  case c3 => rfl
  intro Γ' S' h0
  have p1 : parS [Str.ofString "lamps"] [(.lst (ts.map t3D))] (Str.ofString "lamps") = some (.imm (.lst (ts.map t3D))) := by kernel_rfl!
  generalize parS [Str.ofString "lamps"] [(.lst (ts.map t3D))] = σ at p1
  refine Ex.cons (Ex1.assign (d := .lst [t3D (0, 0, 0)]) (Ev.of_eq (d := .lst [.tup [.flt 0, .flt 0, .flt 0]]) (Ev.lst (EvS.cons (Ev.tup (EvS.cons Ev.flt (EvS.cons Ev.flt (EvS.cons Ev.flt EvS.nil (by kernel_rfl!)) (by kernel_rfl!)) (by kernel_rfl!)) (by decide)) EvS.nil (by kernel_rfl!)) (Nat.le_of_ble_eq_true rfl)) z16) (by (first | (refine Wr.loc ?_ ?_ ?_ <;> kernel_rfl!) | (refine Wr.cell ?_ ?_ ?_ <;> kernel_rfl!))) (seqR_next ?_) (by kernel_rfl!))
  refine Ex.cons (Ex1.loop (items := ts.map t3D) (fun i σ => σ (Str.ofString "lamps") = some (.imm (.lst (ts.map t3D))) ∧ σ (Str.ofString "sums") = some (.imm (.lst ((sumsT (ts.take i)).map t3D)))) (Src.list S' (Ev.name (by (repeat' (with_reducible first | exact upd_eq | assumption | refine upd_ne (by kernel_rfl!) ?_))))) ⟨by (repeat' (with_reducible first | exact upd_eq | assumption | refine upd_ne (by kernel_rfl!) ?_)), upd_eq⟩ ?step ?done (by kernel_rfl!))
  case done =>
    rintro σ' ⟨h1, h2⟩
    rw [List.length_map, List.take_length] at h2
    have hlen : (sumsT ts).length ≤ 32 := by rw [sumsT_len]; exact Nat.pow_le_pow_right (by decide) hn
    refine seqR_next (Ex.cons (Ex1.ret (Ev.of_eq (Ev.comp S' (l := sumsT ts) (gt := t3D) (fr := []) (cl := []) (fun _ => true) (fun t => .int (w3 t)) (Src.list S' (Ev.name h2)) ?cok (fun a _ C => EvIf.nil) (fun t ht _ C => ?elt) (Nat.le_trans hlen (by decide)) (by kernel_rfl!)) ?eqd) (seqR_ret rfl)))
    case cok => exact ⟨by kernel_rfl!, by kernel_rfl!, by decide, fun C => .inl ⟨by kernel_rfl!, by kernel_rfl!⟩, by kernel_rfl!, fun C y hy => by cases hy⟩
    case eqd => rw [pv_filter_true]; simp [intL, Function.comp_def]
    case elt =>
      have hle : Le3 80 t := by
        obtain ⟨a, b, c⟩ := sumsT_le ts h16 ts.length (Nat.le_refl _) t (by rw [List.take_length]; exact ht)
        exact ⟨by omega, by omega, by omega⟩
      obtain ⟨f1, f2, f3, f4⟩ := hR t hle
      refine Ev.callB (b_round S' (by (refine EnvG.mk' ?_ ?_ ?_ <;> kernel_rfl!)) (by kernel_rfl!)) (ds := [.flt (lightX t)]) (EvS.cons ?_ EvS.nil (by kernel_rfl!)) (CallR.of_eq (CallR.round S' f1 f2 f3) (by rw [f4])) (by kernel_rfl!)
      refine Ev.bin Ev.int ?_ (Bin.mulIF (by decide +kernel))
      refine Ev.itemT (ds := [.flt (yF (f16 t.1) (f16 t.2.1) (f16 t.2.2)), .flt (iF (f16 t.1) (f16 t.2.1) (f16 t.2.2)), .flt (qF (f16 t.1) (f16 t.2.1) (f16 t.2.2))]) ?_ Ev.int (by decide) (by decide) rfl (by kernel_rfl!)
      refine Ev.callF S' (Glb.fn S' (by (refine EnvG.mk' ?_ ?_ ?_ <;> kernel_rfl!)) n_yiq (by kernel_rfl!) (by decide)) keep_yiq (ds := [.flt (f16 t.1), .flt (f16 t.2.1), .flt (f16 t.2.2)]) (EvS.cons ?_ (EvS.cons ?_ (EvS.cons ?_ EvS.nil (by kernel_rfl!)) (by kernel_rfl!)) (by kernel_rfl!)) (yiq_fn S' _ _ _) (by kernel_rfl!)
      · exact Ev.itemT (Ev.name (compS_x (d := t3D t))) Ev.int (by decide) (by decide) rfl (by kernel_rfl!)
      · exact Ev.itemT (Ev.name (compS_x (d := t3D t))) Ev.int (by decide) (by decide) rfl (by kernel_rfl!)
      · exact Ev.itemT (Ev.name (compS_x (d := t3D t))) Ev.int (by decide) (by decide) rfl (by kernel_rfl!)
  case step =>
    rintro i d σ' hd ⟨h1, h2⟩
    rw [List.getElem?_map, Option.map_eq_some_iff] at hd
    obtain ⟨w, hw', rfl⟩ := hd
    have hi : i < ts.length := by
      rcases Nat.lt_or_ge i ts.length with h | h
      · exact h
      · rw [List.getElem?_eq_none h] at hw'; cases hw'
    have hw16 : Le3 16 w := h16 w (List.mem_of_getElem? hw')
    have hlen : (sumsT (ts.take i)).length ≤ 32 := by
      rw [sumsT_len]
      have : (ts.take i).length ≤ 5 := by rw [List.length_take]; omega
      exact Nat.pow_le_pow_right (by decide) this
    refine ⟨_, Asg.tup S' (AsgL.cons (Asg.name (by (first | (refine Wr.loc ?_ ?_ ?_ <;> kernel_rfl!) | (refine Wr.cell ?_ ?_ ?_ <;> kernel_rfl!)))) (AsgL.cons (Asg.name (by (first | (refine Wr.loc ?_ ?_ ?_ <;> kernel_rfl!) | (refine Wr.cell ?_ ?_ ?_ <;> kernel_rfl!)))) (AsgL.cons (Asg.name (by (first | (refine Wr.loc ?_ ?_ ?_ <;> kernel_rfl!) | (refine Wr.cell ?_ ?_ ?_ <;> kernel_rfl!)))) AsgL.nil (by kernel_rfl!)) (by kernel_rfl!)) (by kernel_rfl!)) (by kernel_rfl!) (by kernel_rfl!), ?_⟩
    refine Ex.cons (Ex1.assign (d := .lst ((sumsT (ts.take (i + 1))).map t3D)) ?_ (by (first | (refine Wr.loc ?_ ?_ ?_ <;> kernel_rfl!) | (refine Wr.cell ?_ ?_ ?_ <;> kernel_rfl!))) (seqR_next (Ex.nil (loopR_next ⟨by (repeat' (with_reducible first | exact upd_eq | assumption | refine upd_ne (by kernel_rfl!) ?_)), upd_eq⟩))) (by kernel_rfl!))
    rw [sumsT_take ts hw', List.map_append]
    refine Ev.bin (Ev.name (by (repeat' (with_reducible first | exact upd_eq | assumption | refine upd_ne (by kernel_rfl!) ?_)))) ?_ (Bin.addL ?_)
    · refine Ev.of_eq (Ev.comp S' (l := sumsT (ts.take i)) (gt := t3D) (fr := [Str.ofString "b", Str.ofString "g", Str.ofString "r"]) (cl := [(Str.ofString "r", Γ'.L + 1), (Str.ofString "g", Γ'.L + 1 + 1), (Str.ofString "b", Γ'.L + 1 + 1 + 1)]) (fun _ => true) (fun o => t3D (t3add w o)) (Src.list S' (Ev.name (by (repeat' (with_reducible first | exact upd_eq | assumption | refine upd_ne (by kernel_rfl!) ?_))))) ?cok (fun a _ C => EvIf.nil) (fun o ho _ C => ?elt) ?_ (by kernel_rfl!)) ?_
      case cok =>
        refine ⟨by kernel_rfl!, by kernel_rfl!, by decide, fun C => .inl ⟨by kernel_rfl!, by kernel_rfl!⟩, by kernel_rfl!, fun C y hy => ?_⟩
        rcases List.mem_cons.mp hy with rfl | hy
        · exact ⟨Γ'.L + 1 + 1 + 1, by kernel_rfl!, by kernel_rfl!, .inl (by kernel_rfl!), by kernel_rfl!, by kernel_rfl!⟩
        · rcases List.mem_cons.mp hy with rfl | hy
          · exact ⟨Γ'.L + 1 + 1, by kernel_rfl!, by kernel_rfl!, .inl (by kernel_rfl!), by kernel_rfl!, by kernel_rfl!⟩
          · rw [List.mem_singleton.mp hy]
            exact ⟨Γ'.L + 1, by kernel_rfl!, by kernel_rfl!, .inl (by kernel_rfl!), by kernel_rfl!, by kernel_rfl!⟩
      case elt =>
        obtain ⟨a, b, c⟩ := sumsT_le ts h16 i (by omega) o ho
        obtain ⟨a', b', c'⟩ := hw16
        have e : t3D (t3add w o) = .tup [.flt (Float64.add (f16 o.1) (f16 w.1)), .flt (Float64.add (f16 o.2.1) (f16 w.2.1)), .flt (Float64.add (f16 o.2.2) (f16 w.2.2))] := by
          rw [add16' (by omega) a', add16' (by omega) b', add16' (by omega) c']; rfl
        rw [e]
        refine Ev.tup (EvS.cons (Ev.bin (d₁ := .flt (f16 o.1)) ?_ (Ev.name (d := .flt (f16 w.1)) (compS_y (by kernel_rfl!) (by kernel_rfl!) (by (repeat' (with_reducible first | exact upd_eq | assumption | refine upd_ne (by kernel_rfl!) ?_))))) Bin.addF) (EvS.cons (Ev.bin (d₁ := .flt (f16 o.2.1)) ?_ (Ev.name (d := .flt (f16 w.2.1)) (compS_y (by kernel_rfl!) (by kernel_rfl!) (by (repeat' (with_reducible first | exact upd_eq | assumption | refine upd_ne (by kernel_rfl!) ?_))))) Bin.addF) (EvS.cons (Ev.bin (d₁ := .flt (f16 o.2.2)) ?_ (Ev.name (d := .flt (f16 w.2.2)) (compS_y (by kernel_rfl!) (by kernel_rfl!) (by (repeat' (with_reducible first | exact upd_eq | assumption | refine upd_ne (by kernel_rfl!) ?_))))) Bin.addF) EvS.nil (by kernel_rfl!)) (by kernel_rfl!)) (by kernel_rfl!)) (Nat.le_of_ble_eq_true rfl)
        · exact Ev.itemT (Ev.name (compS_x (d := t3D o))) Ev.int (by decide) (by decide) rfl (by kernel_rfl!)
        · exact Ev.itemT (Ev.name (compS_x (d := t3D o))) Ev.int (by decide) (by decide) rfl (by kernel_rfl!)
        · exact Ev.itemT (Ev.name (compS_x (d := t3D o))) Ev.int (by decide) (by decide) rfl (by kernel_rfl!)
      · exact Nat.le_trans hlen (by decide)
      · rw [pv_filter_true]; simp [Function.comp_def]
    · simp only [List.length_map]
      exact Nat.le_trans (Nat.add_le_add hlen hlen) (by decide)

/-! part RF -/
open PySem.Float64 in
theorem V_any {q k : Nat} (hq : q < 2 ^ 53) (hk : 52 ≤ k) : ∃ t, V t = q * 2 ^ k := by
  by_cases h0 : q = 0
  · exact ⟨0, by rw [h0, V_zero]; simp⟩
  · have h1 : 2 ^ q.log2 ≤ q := Nat.log2_self_le h0
    have h2 : q < 2 ^ (q.log2 + 1) := Nat.lt_log2_self
    have h3 : q.log2 < 53 := (Nat.log2_lt h0).mpr hq
    have e : 2 ^ 52 = 2 ^ q.log2 * 2 ^ (52 - q.log2) := by rw [← Nat.pow_add]; congr 1; omega
    have e2 : 2 ^ 53 = 2 ^ (q.log2 + 1) * 2 ^ (52 - q.log2) := by rw [← Nat.pow_add]; congr 1; omega
    have a1 : 2 ^ 52 ≤ q * 2 ^ (52 - q.log2) := by rw [e]; exact Nat.mul_le_mul_right _ h1
    have a2 : q * 2 ^ (52 - q.log2) ≤ 2 ^ 53 := by rw [e2]; exact Nat.mul_le_mul_right _ (Nat.le_of_lt h2)
    refine ⟨(k - (52 - q.log2)) * 2 ^ 52 + q * 2 ^ (52 - q.log2), ?_⟩
    rw [V_at a2 (.inl a1), Nat.mul_assoc, ← Nat.pow_add]
    congr 2; omega
/-- the float of value v/2^1074 -/
noncomputable def IsV (x : UInt64) (v : Nat) : Prop := ∃ m e, Float64.decode x = .fin false m e ∧ m * 2 ^ (e + 1074).toNat = v
open PySem.Float64 in
theorem near {r : UInt64} {W D : Nat} (hD : 0 < D) (hr : Right r false W D) (hW : W < D * (2 ^ 52 * 2 ^ 1035)) : ∃ v, IsV r v ∧ dist W (D * v) ≤ D * 2 ^ 1035 := by
  obtain ⟨t, rfl, hle, hov, hn⟩ := hr
  have hlt : t < infMag := by
    rcases Nat.lt_or_ge t infMag with h | h
    · exact h
    · have := hov.mp (by omega)
      exfalso
      have h2 : D * (2 ^ 52 * 2 ^ 1035 * 2) ≤ D * ((2 ^ 54 - 1) * 2 ^ 2045) := Nat.mul_le_mul_left _ (by decide +kernel)
      have h3 : D * (2 ^ 52 * 2 ^ 1035 * 2) = 2 * (D * (2 ^ 52 * 2 ^ 1035)) := by rw [← Nat.mul_assoc D, Nat.mul_comm 2]
      omega
  obtain ⟨m, e, hd, hv⟩ := decode_pack false hlt
  refine ⟨V t, ⟨m, e, hd, hv⟩, ?_⟩
  have hDE : 0 < D * 2 ^ 1035 := Nat.mul_pos hD (Nat.two_pow_pos _)
  obtain ⟨t', ht'⟩ := V_any (q := W / (D * 2 ^ 1035)) (k := 1035) (by
    have : W / (D * 2 ^ 1035) < 2 ^ 52 := by
      rw [Nat.div_lt_iff_lt_mul hDE]
      rw [show 2 ^ 52 * (D * 2 ^ 1035) = D * (2 ^ 52 * 2 ^ 1035) by ac_rfl]; exact hW
    exact Nat.lt_trans this (by decide)) (by decide)
  refine Nat.le_trans (hn hlt t').1 ?_
  rw [ht', show D * (W / (D * 2 ^ 1035) * 2 ^ 1035) = D * 2 ^ 1035 * (W / (D * 2 ^ 1035)) by ac_rfl]
  have h1 := Nat.div_add_mod W (D * 2 ^ 1035)
  have h2 := Nat.mod_lt W hDE
  unfold dist
  omega
theorem IsV.val {x : UInt64} {v : Nat} (h : IsV x v) : Float64.val x = (v : Int) := by
  obtain ⟨m, e, hd, hv⟩ := h
  rw [Float64.val_eq hd, hv]; rfl
open PySem.Float64 in
theorem mulV {x y : UInt64} {v w : Nat} (hx : IsV x v) (hy : IsV y w) (hW : v * w < 2 ^ 1074 * (2 ^ 52 * 2 ^ 1035)) : ∃ u, IsV (Float64.mul x y) u ∧ dist (v * w) (2 ^ 1074 * u) ≤ 2 ^ 1074 * 2 ^ 1035 := by
  have e1 := hx.val
  have e2 := hy.val
  obtain ⟨m, e, hd, hv⟩ := hx
  obtain ⟨m', e', hd', hv'⟩ := hy
  have := mul_right hd hd'
  rw [e1, e2, Int.natAbs_natCast, Int.natAbs_natCast] at this
  exact near (Nat.two_pow_pos _) this hW
open PySem.Float64 in
theorem addV {x y : UInt64} {v w : Nat} (hx : IsV x v) (hy : IsV y w) (hW : v + w < 2 ^ 52 * 2 ^ 1035) : ∃ u, IsV (Float64.add x y) u ∧ dist (v + w) u ≤ 2 ^ 1035 := by
  have e1 := hx.val
  have e2 := hy.val
  obtain ⟨m, e, hd, hv⟩ := hx
  obtain ⟨m', e', hd', hv'⟩ := hy
  have := add_right hd hd'
  rw [e1, e2] at this
  by_cases h0 : v + w = 0
  · rw [this.1 (by omega)]
    refine ⟨0, ⟨0, -1074, by kernel_rfl!, by simp⟩, ?_⟩
    rw [h0]; unfold dist; simp
  · have r := this.2 (by omega)
    rw [show decide ((v : Int) + (w : Int) < 0) = false from decide_eq_false (by omega), show ((v : Int) + (w : Int)).natAbs = v + w by omega] at r
    obtain ⟨u, a, b⟩ := near (by decide) r (by rw [Nat.one_mul]; exact hW)
    rw [Nat.one_mul, Nat.one_mul] at b
    exact ⟨u, a, b⟩
open PySem.Float64 in
/-- the nearest int -/
theorem nearV {x : UInt64} {v N : Nat} (hx : IsV x v) (h : 2 * dist v (N * 2 ^ 1074) < 2 ^ 1074) : PySem.Flt.toInt Float64.nearestOf x = (N : Int) := by
  obtain ⟨m, e, hd, hv⟩ := hx
  unfold PySem.Flt.toInt
  rw [hd]
  show Float64.nearestOf false m e = _
  unfold Float64.nearestOf
  have hge := decode_ge hd
  have hs := shift_one m e 1074 (by omega)
  have hpos := shift_pos m 1 e (by decide)
  generalize shift m 1 e = nd at hs hpos ⊢
  obtain ⟨n, d⟩ := nd
  show sgn false (halfEven n d) = _
  dsimp only at hs hpos
  rw [show e + ((1074 : Nat) : Int) = e + 1074 from rfl, hv] at hs
  have hb := halfEven_nearest n d hpos N
  have hU : 0 < 2 ^ 1074 := Nat.two_pow_pos _
  generalize (2 : Nat) ^ 1074 = U at *
  generalize halfEven n d = q at *
  -- 2 * dist n (d * N) < d
  have k1 : dist n (d * N) * U = d * dist v (N * U) := by
    have a := dist_mul U n (d * N)
    have b := dist_mul d v (N * U)
    rw [Nat.mul_comm, ← a, ← b, Nat.mul_comm U n, hs, Nat.mul_comm v d]
    congr 1; ac_rfl
  have k2 : 2 * dist n (d * N) < d := by
    have : 2 * dist n (d * N) * U < d * U := by
      rw [Nat.mul_assoc, k1]
      calc 2 * (d * dist v (N * U)) = d * (2 * dist v (N * U)) := by ac_rfl
        _ < d * U := Nat.mul_lt_mul_of_pos_left h hpos
    exact Nat.lt_of_mul_lt_mul_right this
  have k3 : dist (d * q) (d * N) < d := by
    clear h hs hv hge hd k1 hU
    unfold dist at *
    omega
  rw [dist_mul] at k3
  have k4 : dist q N < 1 := by
    rcases Nat.lt_or_ge (dist q N) 1 with h | h
    · exact h
    · exact absurd (Nat.mul_le_mul_left d h) (by omega)
  have : q = N := by unfold dist at k4; omega
  rw [this]; rfl

/-! part RG -/
noncomputable def isVb (x : UInt64) (v : Nat) : Bool := match Float64.decode x with
  | .fin false m e => m * 2 ^ (e + 1074).toNat == v
  | _ => false
theorem isV_of {x : UInt64} {v : Nat} (h : isVb x v = true) : IsV x v := by
  unfold isVb at h
  split at h
  · rename_i m e hd
    exact ⟨m, e, hd, eq_of_beq h⟩
  · cases h
theorem IsV.fin {x : UInt64} {v : Nat} (h : IsV x v) : Float64.isFinite x = true ∧ Float64.isNaN x = false ∧ Float64.isInf x = false := by
  obtain ⟨m, e, hd, _⟩ := h
  unfold Float64.isFinite Float64.isNaN Float64.isInf
  rw [hd]; exact ⟨rfl, rfl, rfl⟩
theorem v16 : ∀ a : Fin 81, isVb (f16 a.val) (a.val * 2 ^ 1070) = true := by decide +kernel
theorem vA : isVb 4599075939470750515 (5404319552844595 * 2 ^ 1020) = true := by decide +kernel
theorem vB : isVb 4603489467105573601 (5314247560297185 * 2 ^ 1021) = true := by decide +kernel
theorem vC : isVb 4592590756007337001 (7926335344172073 * 2 ^ 1018) = true := by decide +kernel
theorem v1600 : isVb (Float64.ofInt 1600) (1600 * 2 ^ 1074) = true := by decide +kernel
theorem mulV' {x y : UInt64} {v w z : Nat} (hx : IsV x v) (hy : IsV y w) (hz : v * w = 2 ^ 1074 * z) (hW : z < 2 ^ 52 * 2 ^ 1035) : ∃ u, IsV (Float64.mul x y) u ∧ Float64.dist z u ≤ 2 ^ 1035 := by
  have hU : 0 < 2 ^ 1074 := Nat.two_pow_pos _
  obtain ⟨u, a, b⟩ := mulV hx hy (by rw [hz]; exact Nat.mul_lt_mul_of_pos_left hW hU)
  rw [hz, Float64.dist_mul] at b
  exact ⟨u, a, Nat.le_of_mul_le_mul_left b hU⟩
theorem pw1 : (2 : Nat) ^ 1035 = 2097152 * 2 ^ 1014 := by decide +kernel
theorem pw2 : (2 : Nat) ^ 1074 = 1152921504606846976 * 2 ^ 1014 := by decide +kernel
theorem pwA (R : Nat) : 5404319552844595 * 2 ^ 1020 * (R * 2 ^ 1070) = 2 ^ 1074 * (21617278211378380 * (R * 2 ^ 1014)) := by
  have e : 5404319552844595 * 2 ^ 1020 * 2 ^ 1070 = 2 ^ 1074 * (21617278211378380 * 2 ^ 1014) := by decide +kernel
  calc 5404319552844595 * 2 ^ 1020 * (R * 2 ^ 1070) = R * (5404319552844595 * 2 ^ 1020 * 2 ^ 1070) := by ac_rfl
    _ = R * (2 ^ 1074 * (21617278211378380 * 2 ^ 1014)) := by rw [e]
    _ = _ := by ac_rfl
theorem pwB (R : Nat) : 5314247560297185 * 2 ^ 1021 * (R * 2 ^ 1070) = 2 ^ 1074 * (42513980482377480 * (R * 2 ^ 1014)) := by
  have e : 5314247560297185 * 2 ^ 1021 * 2 ^ 1070 = 2 ^ 1074 * (42513980482377480 * 2 ^ 1014) := by decide +kernel
  calc 5314247560297185 * 2 ^ 1021 * (R * 2 ^ 1070) = R * (5314247560297185 * 2 ^ 1021 * 2 ^ 1070) := by ac_rfl
    _ = R * (2 ^ 1074 * (42513980482377480 * 2 ^ 1014)) := by rw [e]
    _ = _ := by ac_rfl
theorem pwC (R : Nat) : 7926335344172073 * 2 ^ 1018 * (R * 2 ^ 1070) = 2 ^ 1074 * (7926335344172073 * (R * 2 ^ 1014)) := by
  have e : 7926335344172073 * 2 ^ 1018 * 2 ^ 1070 = 2 ^ 1074 * (7926335344172073 * 2 ^ 1014) := by decide +kernel
  calc 7926335344172073 * 2 ^ 1018 * (R * 2 ^ 1070) = R * (7926335344172073 * 2 ^ 1018 * 2 ^ 1070) := by ac_rfl
    _ = R * (2 ^ 1074 * (7926335344172073 * 2 ^ 1014)) := by rw [e]
    _ = _ := by ac_rfl
section
variable {P X Y Z u1 u2 u3 u4 u5 u6 : Nat}
open PySem.Float64
theorem ar1 {c : Nat} (hc : c ≤ 42513980482377480) (hP : 0 < P) (h : X ≤ 80 * P) : c * X < 2 ^ 52 * (2097152 * P) := by
  have : c * X ≤ 42513980482377480 * X := Nat.mul_le_mul_right _ hc
  omega
theorem two {a b q : Nat} (h : dist a b ≤ q) : a ≤ b + q ∧ b ≤ a + q := by unfold dist at h; omega
theorem two2 {a b q : Nat} (h1 : 2 * a < 2 * b + q) (h2 : 2 * b < 2 * a + q) : 2 * dist a b < q := by unfold dist; omega
theorem s2 {a b Q u v : Nat} (x : a ≤ u + Q ∧ u ≤ a + Q) (y : b ≤ v + Q ∧ v ≤ b + Q) : a + b ≤ u + v + 2 * Q ∧ u + v ≤ a + b + 2 * Q := by omega
theorem s4 {a c Q u4 u3 v : Nat} (z : c ≤ u3 + Q ∧ u3 ≤ c + Q) (x : a ≤ v + 2 * Q ∧ v ≤ a + 2 * Q) (y : v ≤ u4 + Q ∧ u4 ≤ v + Q) : a + c ≤ u4 + u3 + 4 * Q ∧ u4 + u3 ≤ a + c + 4 * Q := by omega
theorem s5 {a Q u v : Nat} (x : a ≤ v + 4 * Q ∧ v ≤ a + 4 * Q) (y : v ≤ u + Q ∧ u ≤ v + Q) : a ≤ u + 5 * Q ∧ u ≤ a + 5 * Q := by omega
theorem s6 {a Q u v : Nat} (x : a ≤ v + 5 * Q ∧ v ≤ a + 5 * Q) (y : 1600 * v ≤ u + Q ∧ u ≤ 1600 * v + Q) : 1600 * a ≤ u + 8001 * Q ∧ u ≤ 1600 * a + 8001 * Q := by omega
theorem a4 (hP : 0 < P) (hX : X ≤ 80 * P) (hY : Y ≤ 80 * P) (h : Z ≤ 21617278211378380 * X + 42513980482377480 * Y + 2 * (2097152 * P)) : Z < 2 ^ 52 * (2097152 * P) := by omega
theorem a5 (hP : 0 < P) (hX : X ≤ 80 * P) (hY : Y ≤ 80 * P) (hZ : Z ≤ 80 * P) (h : u1 ≤ 21617278211378380 * X + 42513980482377480 * Y + 7926335344172073 * Z + 5 * (2097152 * P)) : 1600 * u1 < 2 ^ 52 * (2097152 * P) := by omega
theorem ar4 (hP : 0 < P) (hX : X ≤ 80 * P) (hY : Y ≤ 80 * P) (d1 : dist (21617278211378380 * X) u1 ≤ 2097152 * P) (d2 : dist (42513980482377480 * Y) u2 ≤ 2097152 * P) : u1 + u2 < 2 ^ 52 * (2097152 * P) :=
  a4 hP hX hY (s2 (two d1) (two d2)).2
theorem ar6 (hP : 0 < P) (hX : X ≤ 80 * P) (hY : Y ≤ 80 * P) (hZ : Z ≤ 80 * P) (d1 : dist (21617278211378380 * X) u1 ≤ 2097152 * P) (d2 : dist (42513980482377480 * Y) u2 ≤ 2097152 * P) (d3 : dist (7926335344172073 * Z) u3 ≤ 2097152 * P) (d4 : dist (u1 + u2) u4 ≤ 2097152 * P) (d5 : dist (u4 + u3) u5 ≤ 2097152 * P) : 1600 * u5 < 2 ^ 52 * (2097152 * P) :=
  a5 hP hX hY hZ (s5 (s4 (two d3) (s2 (two d1) (two d2)) (two d4)) (two d5)).2
theorem ar5 (hP : 0 < P) (hX : X ≤ 80 * P) (hY : Y ≤ 80 * P) (hZ : Z ≤ 80 * P) (d1 : dist (21617278211378380 * X) u1 ≤ 2097152 * P) (d2 : dist (42513980482377480 * Y) u2 ≤ 2097152 * P) (d3 : dist (7926335344172073 * Z) u3 ≤ 2097152 * P) (d4 : dist (u1 + u2) u4 ≤ 2097152 * P) : u4 + u3 < 2 ^ 52 * (2097152 * P) :=
  Nat.lt_of_le_of_lt (Nat.le_mul_of_pos_left _ (by decide)) (a5 hP hX hY hZ (Nat.le_trans (s4 (two d3) (s2 (two d1) (two d2)) (two d4)).2 (Nat.add_le_add_left (Nat.mul_le_mul_right _ (by decide)) _)))
theorem ar7 (hP : 0 < P) (hX : X ≤ 80 * P) (hY : Y ≤ 80 * P) (hZ : Z ≤ 80 * P) (d1 : dist (21617278211378380 * X) u1 ≤ 2097152 * P) (d2 : dist (42513980482377480 * Y) u2 ≤ 2097152 * P) (d3 : dist (7926335344172073 * Z) u3 ≤ 2097152 * P) (d4 : dist (u1 + u2) u4 ≤ 2097152 * P) (d5 : dist (u4 + u3) u5 ≤ 2097152 * P) (d6 : dist (1600 * u5) u6 ≤ 2097152 * P) : 2 * dist u6 (1152921504606846976 * (30 * X + 59 * Y + 11 * Z)) < 1152921504606846976 * P := by
  have h := s6 (s5 (s4 (two d3) (s2 (two d1) (two d2)) (two d4)) (two d5)) (two d6)
  clear d1 d2 d3 d4 d5 d6
  exact two2 (by omega) (by omega)
end
theorem sum3 (R Gr B P : Nat) : (30 * R + 59 * Gr + 11 * B) * (1152921504606846976 * P) = 1152921504606846976 * (30 * (R * P) + 59 * (Gr * P) + 11 * (B * P)) := by
  simp only [Nat.add_mul, Nat.mul_add]; ac_rfl
theorem roundsTo_aux {x : UInt64} {u N : Nat} {w : Int} (i7 : IsV x u) (hlast : 2 * Float64.dist u (N * 2 ^ 1074) < 2 ^ 1074) (e : (N : Int) = w) : Float64.isFinite x = true ∧ Float64.isNaN x = false ∧ Float64.isInf x = false ∧ PySem.Flt.toInt Float64.nearestOf x = w :=
  ⟨i7.fin.1, i7.fin.2.1, i7.fin.2.2, (nearV i7 hlast).trans e⟩
set_option maxHeartbeats 1000000 in
theorem roundsTo (t : T3) (h : Le3 80 t) : RoundsTo t := by
  obtain ⟨R, Gr, B⟩ := t
  obtain ⟨hR, hG, hB⟩ := h
  replace hR : R ≤ 80 := hR
  replace hG : Gr ≤ 80 := hG
  replace hB : B ≤ 80 := hB
  have xR : R * 2 ^ 1014 ≤ 80 * 2 ^ 1014 := Nat.mul_le_mul_right _ hR
  have xG : Gr * 2 ^ 1014 ≤ 80 * 2 ^ 1014 := Nat.mul_le_mul_right _ hG
  have xB : B * 2 ^ 1014 ≤ 80 * 2 ^ 1014 := Nat.mul_le_mul_right _ hB
  have hP : 0 < 2 ^ 1014 := Nat.two_pow_pos _
  have iR : IsV (f16 R) (R * 2 ^ 1070) := isV_of (v16 ⟨R, by omega⟩)
  have iG : IsV (f16 Gr) (Gr * 2 ^ 1070) := isV_of (v16 ⟨Gr, by omega⟩)
  have iB : IsV (f16 B) (B * 2 ^ 1070) := isV_of (v16 ⟨B, by omega⟩)
  obtain ⟨u1, i1, d1⟩ := mulV' (isV_of vA) iR (pwA R) (by rw [pw1]; exact ar1 (by decide) hP xR)
  obtain ⟨u2, i2, d2⟩ := mulV' (isV_of vB) iG (pwB Gr) (by rw [pw1]; exact ar1 (by decide) hP xG)
  obtain ⟨u3, i3, d3⟩ := mulV' (isV_of vC) iB (pwC B) (by rw [pw1]; exact ar1 (by decide) hP xB)
  rw [pw1] at d1 d2 d3
  obtain ⟨u4, i4, d4⟩ := addV i1 i2 (by rw [pw1]; exact ar4 hP xR xG d1 d2)
  rw [pw1] at d4
  obtain ⟨u5, i5, d5⟩ := addV i4 i3 (by rw [pw1]; exact ar5 hP xR xG xB d1 d2 d3 d4)
  rw [pw1] at d5
  obtain ⟨u6, i6, d6⟩ := mulV' (z := 1600 * u5) (isV_of v1600) i5 (by ac_rfl) (by rw [pw1]; exact ar6 hP xR xG xB d1 d2 d3 d4 d5)
  rw [pw1] at d6
  have hlast : 2 * Float64.dist u6 ((30 * R + 59 * Gr + 11 * B) * 2 ^ 1074) < 2 ^ 1074 := by
    rw [pw2, sum3]
    exact ar7 hP xR xG xB d1 d2 d3 d4 d5 d6
  have i7 : IsV (lightX (R, Gr, B)) u6 := by unfold lightX yF; exact i6
  have e3 : ((30 * R + 59 * Gr + 11 * B : Nat) : Int) = w3 (R, Gr, B) := by unfold w3; push_cast; rfl
  clear i6 d6 d5 d4 d3 d2 d1 i1 i2 i3 i4 i5 iR iG iB
  exact roundsTo_aux i7 hlast e3

/-! part B1 -/
/-! what `_law_beaten` counts -/
noncomputable def posL (size : Nat) (o : List Nat) (i : Nat) : List Nat := (o.drop (i + 1)).map fun y => o.getD i 0 * size + y
noncomputable def allP (size : Nat) (o : List Nat) : Nat → List Nat
  | 0 => []
  | i + 1 => allP size o i ++ posL size o i
noncomputable def addAt (p : Nat) (ab : List Nat) (t : Nat) : List Nat := ab.set t (ab.getD t 0 + p)
noncomputable def abK (orders : List (List Nat)) (size : Nat) : Nat → List Nat
  | 0 => List.replicate (size * size) 0
  | k + 1 => (allP size (orders.getD k []) size).foldl (addAt (2 ^ k)) (abK orders size k)
noncomputable def beatN (orders : List (List Nat)) (wins : List Bool) (size y : Nat) : Nat :=
  (((List.range size).filter fun x => wins.getD ((abK orders size orders.length).getD (x * size + y) 0) false).map fun x => 2 ^ x).sum
noncomputable def beatenF (orders : List (List Nat)) (wins : List Bool) (size : Nat) : List Nat := (List.range size).map fun y => beatN orders wins size y
/-- an order of the motions 0 .. size-1 -/
structure OrdOk (size : Nat) (o : List Nat) : Prop where
  len : o.length = size
  lt : ∀ x ∈ o, x < size
  nd : o.Nodup
  mem : ∀ x, x < size → x ∈ o
noncomputable def bef (o : List Nat) (x y : Nat) : Bool := decide (o.idxOf x < o.idxOf y)
noncomputable def maskOf (b : Nat → Bool) : Nat → Nat
  | 0 => 0
  | k + 1 => maskOf b k + if b k then 2 ^ k else 0
theorem addAt_len (p : Nat) (ab : List Nat) (t : Nat) : (addAt p ab t).length = ab.length := by unfold addAt; rw [List.length_set]
theorem fold_len (p : Nat) (l : List Nat) : ∀ ab : List Nat, (l.foldl (addAt p) ab).length = ab.length := by
  induction l with
  | nil => intro ab; rfl
  | cons a r ih => intro ab; rw [List.foldl_cons, ih, addAt_len]
theorem abK_len (orders : List (List Nat)) (size : Nat) : ∀ k, (abK orders size k).length = size * size
  | 0 => List.length_replicate
  | k + 1 => by unfold abK; rw [fold_len, abK_len orders size k]
theorem fold_get (p : Nat) (l : List Nat) : ∀ (ab : List Nat) (t : Nat), t < ab.length → (l.foldl (addAt p) ab).getD t 0 = ab.getD t 0 + p * l.count t := by
  induction l with
  | nil => intro ab t _; simp
  | cons a r ih =>
    intro ab t ht
    rw [List.foldl_cons, ih _ _ (by rw [addAt_len]; exact ht)]
    unfold addAt
    rw [List.count_cons]
    by_cases h : a = t
    · subst h
      simp only [List.getD_eq_getElem?_getD, List.getElem?_set_self ht, Option.getD_some, beq_self_eq_true, if_true, Nat.mul_add, Nat.mul_one]
      omega
    · have hb : (a == t) = false := by simpa using h
      simp only [List.getD_eq_getElem?_getD, List.getElem?_set_ne h, hb, Bool.false_eq_true, if_false, Nat.add_zero]
theorem idx_inj {size x y x' y' : Nat} (hy : y < size) (hy' : y' < size) (h : x * size + y = x' * size + y') : x = x' ∧ y = y' := by
  have h1 : (x * size + y) / size = x := by rw [Nat.mul_comm, Nat.mul_add_div (by omega), Nat.div_eq_of_lt hy, Nat.add_zero]
  have h2 : (x' * size + y') / size = x' := by rw [Nat.mul_comm, Nat.mul_add_div (by omega), Nat.div_eq_of_lt hy', Nat.add_zero]
  have e : x = x' := by rw [← h1, ← h2, h]
  subst e
  exact ⟨rfl, by omega⟩
theorem idx_lt {size x y : Nat} (hx : x < size) (hy : y < size) : x * size + y < size * size := by
  have : (x + 1) * size ≤ size * size := Nat.mul_le_mul_right _ hx
  rw [Nat.add_mul] at this; omega
theorem allP_mem {size : Nat} {o : List Nat} : ∀ {m t : Nat}, t ∈ allP size o m → ∃ i y, i < m ∧ y ∈ o.drop (i + 1) ∧ t = o.getD i 0 * size + y
  | 0, t, h => by simp [allP] at h
  | m + 1, t, h => by
    unfold allP at h
    rw [List.mem_append] at h
    rcases h with h | h
    · obtain ⟨i, y, a, b, c⟩ := allP_mem h
      exact ⟨i, y, by omega, b, c⟩
    · obtain ⟨y, b, c⟩ := List.mem_map.mp h
      exact ⟨m, y, by omega, b, c.symm⟩
theorem allP_in {size : Nat} {o : List Nat} : ∀ {m i y : Nat}, i < m → y ∈ o.drop (i + 1) → o.getD i 0 * size + y ∈ allP size o m
  | 0, i, y, h, _ => absurd h (Nat.not_lt_zero _)
  | m + 1, i, y, h, hy => by
    unfold allP
    rw [List.mem_append]
    by_cases e : i = m
    · subst e; exact .inr (List.mem_map.mpr ⟨y, hy, rfl⟩)
    · exact .inl (allP_in (by omega) hy)
theorem getD_lt {l : List Nat} {i : Nat} (h : i < l.length) : l.getD i 0 = l[i] := by rw [List.getD_eq_getElem?_getD, List.getElem?_eq_getElem h]; rfl
theorem nd_inj {l : List Nat} (nd : l.Nodup) {i j : Nat} (hi : i < l.length) (hj : j < l.length) (h : l[i] = l[j]) : i = j := by
  have := List.Nodup.idxOf_getElem nd i hi
  rw [← this, h, List.Nodup.idxOf_getElem nd j hj]
theorem allP_nd {size : Nat} {o : List Nat} (ok : OrdOk size o) : ∀ m, m ≤ o.length → (allP size o m).Nodup
  | 0, _ => List.nodup_nil
  | m + 1, hm => by
    unfold allP
    rw [List.nodup_append]
    have hlt : ∀ {i y}, y ∈ o.drop i → y < size := fun hy => ok.lt _ (List.mem_of_mem_drop hy)
    refine ⟨allP_nd ok m (by omega), ?_, ?_⟩
    · unfold posL
      refine List.Pairwise.map _ (fun a b (h : a ≠ b) => ?_) (List.Pairwise.sublist (List.drop_sublist _ _) ok.nd)
      intro e; exact h (by omega)
    · intro a ha b hb e
      obtain ⟨i, y, h1, h2, h3⟩ := allP_mem ha
      obtain ⟨y', h4, h5⟩ := List.mem_map.mp hb
      have := (idx_inj (hlt h2) (hlt h4) (by rw [← h3, e, ← h5])).1
      rw [getD_lt (by omega), getD_lt (by omega)] at this
      have := nd_inj ok.nd (by omega) (by omega) this
      omega
theorem allP_iff {size : Nat} {o : List Nat} (ok : OrdOk size o) {x y : Nat} (hx : x < size) (hy : y < size) : x * size + y ∈ allP size o size ↔ bef o x y = true := by
  unfold bef
  rw [decide_eq_true_iff]
  constructor
  · intro h
    obtain ⟨i, y', h1, h2, h3⟩ := allP_mem h
    have hy' : y' < size := ok.lt _ (List.mem_of_mem_drop h2)
    obtain ⟨e1, e2⟩ := idx_inj hy hy' h3
    subst e2
    obtain ⟨j, hj, e⟩ := List.getElem_of_mem h2
    rw [List.length_drop] at hj
    rw [List.getElem_drop] at e
    have hi : i < o.length := by rw [ok.len]; exact h1
    rw [getD_lt hi] at e1
    rw [e1, List.Nodup.idxOf_getElem ok.nd, ← e, List.Nodup.idxOf_getElem ok.nd]
    omega
  · intro h
    have hxm := ok.mem x hx
    have hym := ok.mem y hy
    have ix : o.idxOf x < o.length := List.idxOf_lt_length_iff.mpr hxm
    have iy : o.idxOf y < o.length := List.idxOf_lt_length_iff.mpr hym
    have ex : o.getD (o.idxOf x) 0 = x := by rw [getD_lt ix]; exact List.getElem_idxOf ix
    have := allP_in (size := size) (o := o) (m := size) (i := o.idxOf x) (y := y) (by rw [← ok.len]; exact ix) (by
      rw [List.mem_iff_getElem]
      refine ⟨o.idxOf y - (o.idxOf x + 1), by rw [List.length_drop]; omega, ?_⟩
      rw [List.getElem_drop]
      have e : o.idxOf x + 1 + (o.idxOf y - (o.idxOf x + 1)) = o.idxOf y := by omega
      simp only [e]
      exact List.getElem_idxOf iy)
    rw [ex] at this
    exact this
theorem allP_count {size : Nat} {o : List Nat} (ok : OrdOk size o) {x y : Nat} (hx : x < size) (hy : y < size) : (allP size o size).count (x * size + y) = if bef o x y then 1 else 0 := by
  have nd := allP_nd ok size (by rw [ok.len]; exact Nat.le_refl _)
  cases hb : bef o x y with
  | true =>
    rw [if_pos rfl]
    exact Nat.le_antisymm (List.nodup_iff_count.mp nd _) (List.count_pos_iff.mpr ((allP_iff ok hx hy).mpr hb))
  | false =>
    rw [if_neg Bool.false_ne_true]
    exact List.count_eq_zero.mpr fun h => by rw [(allP_iff ok hx hy).mp h] at hb; cases hb
theorem maskOf_lt (b : Nat → Bool) : ∀ k, maskOf b k < 2 ^ k
  | 0 => Nat.one_pos
  | k + 1 => by
    unfold maskOf
    have := maskOf_lt b k
    rw [Nat.pow_succ]
    split <;> omega
theorem abK_get {orders : List (List Nat)} {size : Nat} {x y : Nat} (hx : x < size) (hy : y < size) : ∀ k, k ≤ orders.length → (∀ o ∈ orders, OrdOk size o) → (abK orders size k).getD (x * size + y) 0 = maskOf (fun j => bef (orders.getD j []) x y) k
  | 0, _, _ => by
    unfold abK maskOf
    rw [List.getD_eq_getElem?_getD, List.getElem?_replicate]
    split <;> rfl
  | k + 1, hk, ok => by
    unfold abK maskOf
    have hmem : orders.getD k [] ∈ orders := by
      rw [List.getD_eq_getElem?_getD, List.getElem?_eq_getElem (by omega : k < orders.length)]; exact List.getElem_mem _
    rw [fold_get _ _ _ _ (by rw [abK_len]; exact idx_lt hx hy), abK_get hx hy k (by omega) ok, allP_count (ok _ hmem) hx hy]
    split <;> simp

/-! part W8 -/
noncomputable abbrev W3 := Int × Int × Nat
noncomputable def gW (t : W3) : List Int := [t.1, t.2.1, (t.2.2 : Int)]
noncomputable def wayB (ws : List Int) (room : Int) (t : W3) (k : Nat) : W3 := if t.2.1 + ws.getD k 0 ≤ room then (t.1, t.2.1 + ws.getD k 0, k) else (t.1 + 1, ws.getD k 0, k)
noncomputable def leastW (ways : List W3) : W3 := ways.getD (leastAt (ways.map gW)) (0, 0, 0)
noncomputable def waysAt (ws : List Int) (room : Int) (best : List W3) (m : Nat) : Nat → List W3
  | 0 => []
  | k + 1 => if m.testBit k then waysAt ws room best m k ++ [wayB ws room (best.getD (m - 2 ^ k) (0, 0, 0)) k] else waysAt ws room best m k
noncomputable def bestAt (ws : List Int) (room : Int) : Nat → List W3
  | 0 => [(1, 0, 0)]
  | i + 1 => bestAt ws room i ++ [leastW (waysAt ws room (bestAt ws room i) (1 + i) ws.length)]
noncomputable def placeF (best : List W3) : Nat → Nat → List Int → List Int
  | 0, _, w => w
  | f + 1, m, w => if m = 0 then w else placeF best f (m - 2 ^ (best.getD m (0, 0, 0)).2.2) (w.set (best.getD m (0, 0, 0)).2.2 (best.getD m (0, 0, 0)).1)
noncomputable def boxesF (ws : List Int) (room : Int) : List Int :=
  if room < foldMax ws then [] else placeF (bestAt ws room (2 ^ ws.length - 1)) (2 ^ ws.length - 1) (2 ^ ws.length - 1) (List.replicate ws.length 0)
theorem bestAt_len (ws : List Int) (room : Int) : ∀ i, (bestAt ws room i).length = i + 1
  | 0 => rfl
  | i + 1 => by unfold bestAt; rw [List.length_append, bestAt_len ws room i]; rfl
theorem bestAt_pre (ws : List Int) (room : Int) {i j m : Nat} (h : m ≤ i) (hj : i ≤ j) : (bestAt ws room j)[m]? = (bestAt ws room i)[m]? := by
  induction j with
  | zero => obtain rfl : i = 0 := by omega
            rfl
  | succ j ih =>
    rcases Nat.lt_or_ge i (j + 1) with q | q
    · rw [bestAt, List.getElem?_append_left (by rw [bestAt_len]; omega)]
      exact ih (by omega)
    · obtain rfl : i = j + 1 := by omega
      rfl
theorem waysAt_len (ws : List Int) (room : Int) (best : List W3) (m : Nat) : ∀ k, (waysAt ws room best m k).length ≤ k
  | 0 => Nat.le_refl _
  | k + 1 => by
    unfold waysAt
    split
    · rw [List.length_append]; exact Nat.succ_le_succ (waysAt_len ws room best m k)
    · exact Nat.le_succ_of_le (waysAt_len ws room best m k)
theorem waysAt_mem (ws : List Int) (room : Int) (best : List W3) (m : Nat) : ∀ n (t : W3), t ∈ waysAt ws room best m n ↔ ∃ k, k < n ∧ m.testBit k = true ∧ t = wayB ws room (best.getD (m - 2 ^ k) (0, 0, 0)) k
  | 0, t => by simp [waysAt]
  | n + 1, t => by
    unfold waysAt
    have ih := waysAt_mem ws room best m n t
    constructor
    · intro h
      by_cases hb : m.testBit n = true
      · rw [if_pos hb, List.mem_append] at h
        rcases h with h | h
        · obtain ⟨k, a, b, c⟩ := ih.mp h
          exact ⟨k, by omega, b, c⟩
        · exact ⟨n, by omega, hb, List.mem_singleton.mp h⟩
      · rw [if_neg hb] at h
        obtain ⟨k, a, b, c⟩ := ih.mp h
        exact ⟨k, by omega, b, c⟩
    · rintro ⟨k, a, b, c⟩
      by_cases hk : k = n
      · subst hk
        rw [if_pos b, List.mem_append]
        exact .inr (List.mem_singleton.mpr c)
      · have := ih.mpr ⟨k, by omega, b, c⟩
        split
        · exact List.mem_append.mpr (.inl this)
        · exact this
theorem wayB_last (ws : List Int) (room : Int) (t : W3) (k : Nat) : (wayB ws room t k).2.2 = k := by unfold wayB; split <;> rfl
theorem bit_below {m n : Nat} (h0 : 1 ≤ m) (h1 : m < 2 ^ n) : ∃ k, k < n ∧ m.testBit k = true := by
  obtain ⟨k, hk⟩ := Nat.exists_testBit_of_ne_zero (x := m) (by omega)
  refine ⟨k, ?_, hk⟩
  rcases Nat.lt_or_ge k n with q | q
  · exact q
  · rw [Nat.testBit_lt_two_pow (Nat.lt_of_lt_of_le h1 (Nat.pow_le_pow_right (by decide) q))] at hk; cases hk
theorem waysAt_pos (ws : List Int) (room : Int) (best : List W3) {m n : Nat} (h0 : 1 ≤ m) (h1 : m < 2 ^ n) : 0 < (waysAt ws room best m n).length := by
  obtain ⟨k, a, b⟩ := bit_below h0 h1
  exact List.length_pos_of_mem ((waysAt_mem ws room best m n _).mpr ⟨k, a, b, rfl⟩)
theorem leastW_mem {l : List W3} (h : 0 < l.length) : leastW l ∈ l := by
  unfold leastW
  have hlt : leastAt (l.map gW) < l.length := by
    have := argBest_le (fun i j => lexlt ((l.map gW).getD i []) ((l.map gW).getD j [])) ((l.map gW).length - 1)
    unfold leastAt
    rw [List.length_map] at this ⊢
    omega
  rw [List.getD_eq_getElem?_getD, List.getElem?_eq_getElem hlt]
  exact List.getElem_mem hlt
theorem leastW_eq {l : List W3} (h : 0 < l.length) : leastL (l.map gW) = gW (leastW l) := by
  unfold leastL leastW
  have hlt : leastAt (l.map gW) < l.length := by
    have := argBest_le (fun i j => lexlt ((l.map gW).getD i []) ((l.map gW).getD j [])) ((l.map gW).length - 1)
    unfold leastAt
    rw [List.length_map] at this ⊢
    omega
  rw [List.getD_eq_getElem?_getD, List.getD_eq_getElem?_getD, List.getElem?_map, List.getElem?_eq_getElem hlt]
  rfl
/-- what stands at a mask: the last one in it -/
theorem bestAt_last (ws : List Int) (room : Int) {N m : Nat} (h0 : 1 ≤ m) (hm : m ≤ N) (h1 : m < 2 ^ ws.length) : ∃ t, (bestAt ws room N)[m]? = some t ∧ t.2.2 < ws.length ∧ m.testBit t.2.2 = true := by
  obtain ⟨i, rfl⟩ : ∃ i, m = 1 + i := ⟨m - 1, by omega⟩
  rw [bestAt_pre ws room (i := 1 + i) (Nat.le_refl _) hm, show 1 + i = i + 1 by omega, bestAt, List.getElem?_append_right (by rw [bestAt_len]; exact Nat.le_refl _), bestAt_len, Nat.sub_self]
  refine ⟨_, rfl, ?_⟩
  have hmem := leastW_mem (waysAt_pos ws room (bestAt ws room i) h0 h1)
  obtain ⟨k, a, b, c⟩ := (waysAt_mem _ _ _ _ _ _).mp hmem
  rw [c, wayB_last]
  exact ⟨a, by rw [show i + 1 = 1 + i by omega]; exact b⟩
theorem bit_int (m k : Nat) : (Builtin.bitAnd ((m : Int).fdiv (2 ^ (k : Int).toNat)) 1 != 0) = m.testBit k := by
  rw [Nat.testBit_eq_decide_div_mod_eq, bitAnd_m1, Int.toNat_natCast, pow_cast, Int.fdiv_eq_ediv_of_nonneg _ (Int.natCast_nonneg _), ← Int.natCast_ediv]
  have : m / 2 ^ k % 2 = 0 ∨ m / 2 ^ k % 2 = 1 := by omega
  rcases this with h | h
  · rw [h]
    have : ((m / 2 ^ k : Nat) : Int) % 2 = 0 := by omega
    rw [this]; rfl
  · rw [h]
    have : ((m / 2 ^ k : Nat) : Int) % 2 = 1 := by omega
    rw [this]; rfl
theorem rng_at {a : Int} {n i : Nat} {d : D} (hd : (rng a n)[i]? = some d) : i < n ∧ d = .int (a + i) := by
  have hi : i < n := by
    rcases Nat.lt_or_ge i n with h | h
    · exact h
    · rw [List.getElem?_eq_none (by rw [List.length_map, List.length_range]; exact h)] at hd; cases hd
  rw [List.getElem?_map, List.getElem?_range hi] at hd
  cases hd
  exact ⟨hi, rfl⟩
theorem flat_one {α : Type} (x : α) : ∀ n : Nat, (List.replicate n [x]).flatten = List.replicate n x
  | 0 => rfl
  | n + 1 => by rw [List.replicate_succ, List.replicate_succ, List.flatten_cons, flat_one x n]; rfl
theorem intL_set' {ns : List Int} {i : Nat} {a : Int} : (intL ns).set i (.int a) = intL (ns.set i a) := (List.map_set).symm
noncomputable abbrev WD (t : W3) : D := tupI (gW t)

theorem cast_pred (n : Nat) : ((n + 1 : Nat) : Int) - 1 = n := by rw [Int.natCast_add]; exact Int.add_sub_cancel _ _
theorem i63 {k : Nat} (h : k ≤ 33) : (k : Int) < 2 ^ 63 := Int.lt_of_le_of_lt (Int.ofNat_le.mpr h) (by decide)
theorem i40 {k : Nat} (h : k ≤ 33) : (k : Int) < 2 ^ 40 := Int.lt_of_le_of_lt (Int.ofNat_le.mpr h) (by decide)
theorem i20 {k : Nat} (h : k ≤ 33) : (k : Int) ≤ 2 ^ 20 := Int.le_trans (Int.ofNat_le.mpr h) (by decide)
theorem one_add' {n : Nat} (h : 1 ≤ n) : (n : Int) = 1 + ((n - 1 : Nat) : Int) := by
  rw [Int.add_comm]; exact congrArg Int.ofNat (Nat.sub_add_cancel h).symm
set_option maxHeartbeats 1000000 in
theorem boxes_fn {Γ : G} {k : Nat} (S : Site Γ (k + 1 + 1)) (ws : List Int) (room : Int) (hn0 : 0 < ws.length) (hn : ws.length ≤ 5) : CallR Γ (.ref 153) [.lst (intL ws), .int room] (.lst (intL (boxesF ws room))) := by
  have hpow : 2 ^ ws.length ≤ 32 := Nat.pow_le_pow_right (by decide) hn
  have hpos : 1 ≤ 2 ^ ws.length := Nat.one_le_two_pow
  have hl33 : ws.length ≤ 33 := Nat.le_trans hn (by decide)
  have hl31 : ws.length < 2 ^ 31 := Nat.lt_of_le_of_lt hn (by decide)
  k_dflt (refine' Fn.enter (ps := [Str.ofString "weights", Str.ofString "room"]) ?ho ?hcd ?hb ?hl ?hk ?c1 ?c2 ?c3 S ?body)
  case ho => intro P; k_is
  case hcd => intro P; k_is
  case hb => exact vs2 rfl fun _ _ => rfl
  case hl => rfl
  case hk => exact ⟨⟨by first | exact .inl ⟨by kernel_rfl!, fun n => by kernel_rfl!⟩ | exact .inr ⟨by kernel_rfl!, fun n => by kernel_rfl!⟩, by decide⟩, ⟨by first | exact .inl ⟨by kernel_rfl!, fun n => by kernel_rfl!⟩ | exact .inr ⟨by kernel_rfl!, fun n => by kernel_rfl!⟩, by decide⟩, trivial⟩
  case c1 => rfl
  case c2 => rfl
  case c3 => rfl
  intro Γ' S' h0
  have p1 : parS [Str.ofString "weights", Str.ofString "room"] [(.lst (intL ws)), (.int room)] (Str.ofString "weights") = some (.imm (.lst (intL ws))) := by kernel_rfl!
  have p2 : parS [Str.ofString "weights", Str.ofString "room"] [(.lst (intL ws)), (.int room)] (Str.ofString "room") = some (.imm (.int room)) := by kernel_rfl!
  generalize parS [Str.ofString "weights", Str.ofString "room"] [(.lst (intL ws)), (.int room)] = σ at p1 p2
  refine Ex.cons (Ex1.ite (b := decide (room < foldMax ws)) (EvT.cmp (Ev.callB (b_max S' (by (refine EnvG.mk' ?_ ?_ ?_ <;> kernel_rfl!)) (by kernel_rfl!)) (EvS.cons (Ev.name (by (repeat' (with_reducible first | exact upd_eq | assumption | refine upd_ne (by kernel_rfl!) ?_)))) EvS.nil (by kernel_rfl!)) (CallR.max S' hn0) (by kernel_rfl!)) (Ev.name (by (repeat' (with_reducible first | exact upd_eq | assumption | refine upd_ne (by kernel_rfl!) ?_)))) Cmp.gt (by kernel_rfl!)) (fun q => ?big) fun q => Ex.nil (seqR_next ?small))
  case big =>
    have e : boxesF ws room = [] := if_pos (of_decide_eq_true q)
    rw [e]
    exact Ex.cons (Ex1.ret (d := .lst (intL [])) (Ev.lst EvS.nil (by decide)) (seqR_ret (seqR_ret rfl)))
  case small =>
  have e : boxesF ws room = placeF (bestAt ws room (2 ^ ws.length - 1)) (2 ^ ws.length - 1) (2 ^ ws.length - 1) (List.replicate ws.length 0) := if_neg (of_decide_eq_false q)
  rw [e]
  refine Ex.cons (Ex1.assignN (ds := [WD (1, 0, 0)]) (EvN.lst (EvS.cons (Ev.tup (EvS.cons Ev.int (EvS.cons Ev.int (EvS.cons Ev.int EvS.nil (by kernel_rfl!)) (by kernel_rfl!)) (by kernel_rfl!)) (Nat.le_of_ble_eq_true rfl)) EvS.nil (by kernel_rfl!)) (by decide)) (by (first | (refine Wr.loc ?_ ?_ ?_ <;> kernel_rfl!) | (refine Wr.cell ?_ ?_ ?_ <;> kernel_rfl!))) (seqR_next ?_) (by kernel_rfl!))
  refine Ex.cons (Ex1.loop (items := rng 1 (2 ^ ws.length - 1)) (fun i σ => σ (Str.ofString "weights") = some (.imm (.lst (intL ws))) ∧ σ (Str.ofString "room") = some (.imm (.int room)) ∧ σ (Str.ofString "best") = some (.own ((bestAt ws room i).map WD))) (Src.range2 (b := 2 ^ (ws.length : Int).toNat) S' (b_range S' (by (refine EnvG.mk' ?_ ?_ ?_ <;> kernel_rfl!)) (by kernel_rfl!)) Ev.int ?hi (by decide) ?he ?hl (by kernel_rfl!)) ⟨by (repeat' (with_reducible first | exact upd_eq | assumption | refine upd_ne (by kernel_rfl!) ?_)), by (repeat' (with_reducible first | exact upd_eq | assumption | refine upd_ne (by kernel_rfl!) ?_)), upd_eq⟩ ?step ?done (by kernel_rfl!))
  case hi => exact Ev.bin Ev.int (Ev.lenName S' (by (refine EnvG.mk' ?_ ?_ ?_ <;> kernel_rfl!)) (by kernel_rfl!) (EvL.of (Ev.name (by (repeat' (with_reducible first | exact upd_eq | assumption | refine upd_ne (by kernel_rfl!) ?_))))) (List.length_map _) hl31) (Bin.pow (Int.natCast_nonneg _) (pow2_ok (i20 hl33)))
  case he => rw [Int.toNat_natCast, pow_cast]; exact one_add' hpos
  case hl => rw [Int.toNat_natCast, pow_cast]; exact i40 (Nat.le_trans hpow (by decide))
  case step =>
    rintro i d σ' hd ⟨h1, h2, h3⟩
    obtain ⟨hi, rfl⟩ := rng_at hd
    have hm1 : 1 ≤ 1 + i := Nat.le_add_right 1 i
    have hm2 : 1 + i < 2 ^ ws.length := by rw [Nat.add_comm]; exact Nat.add_lt_of_lt_sub hi
    refine ⟨_, Asg.name (by (first | (refine Wr.loc ?_ ?_ ?_ <;> kernel_rfl!) | (refine Wr.cell ?_ ?_ ?_ <;> kernel_rfl!))), ?_⟩
    refine Ex.cons (Ex1.assignN (ds := []) (EvN.lst EvS.nil (by decide)) (by (first | (refine Wr.loc ?_ ?_ ?_ <;> kernel_rfl!) | (refine Wr.cell ?_ ?_ ?_ <;> kernel_rfl!))) (seqR_next ?_) (by kernel_rfl!))
    refine Ex.cons (Ex1.loop (items := rng 0 ws.length) (fun k σ => σ (Str.ofString "weights") = some (.imm (.lst (intL ws))) ∧ σ (Str.ofString "room") = some (.imm (.int room)) ∧ σ (Str.ofString "mask") = some (.imm (.int (1 + (i : Int)))) ∧ σ (Str.ofString "best") = some (.own ((bestAt ws room i).map WD)) ∧ σ (Str.ofString "ways") = some (.own ((waysAt ws room (bestAt ws room i) (1 + i) k).map WD))) (Src.range1 S' (b_range S' (by (refine EnvG.mk' ?_ ?_ ?_ <;> kernel_rfl!)) (by kernel_rfl!)) (Ev.lenName S' (by (refine EnvG.mk' ?_ ?_ ?_ <;> kernel_rfl!)) (by kernel_rfl!) (EvL.of (Ev.name (by (repeat' (with_reducible first | exact upd_eq | assumption | refine upd_ne (by kernel_rfl!) ?_))))) (List.length_map _) hl31) (i40 hl33) (by kernel_rfl!)) ⟨by (repeat' (with_reducible first | exact upd_eq | assumption | refine upd_ne (by kernel_rfl!) ?_)), by (repeat' (with_reducible first | exact upd_eq | assumption | refine upd_ne (by kernel_rfl!) ?_)), by (repeat' (with_reducible first | exact upd_eq | assumption | refine upd_ne (by kernel_rfl!) ?_)), by (repeat' (with_reducible first | exact upd_eq | assumption | refine upd_ne (by kernel_rfl!) ?_)), upd_eq⟩ ?step2 ?done2 (by kernel_rfl!))
    case done2 =>
      rintro σ2 ⟨g1, g2, g3, g4, g5⟩
      rw [List.length_map, List.length_range] at g5
      refine seqR_next (Ex.freeze (Str.ofString "ways") g5 h0 ?_)
      have hw := waysAt_pos ws room (bestAt ws room i) hm1 hm2
      refine Ex.cons (Ex1.append (ds := (bestAt ws room i).map WD) (d := WD (leastW (waysAt ws room (bestAt ws room i) (1 + i) ws.length))) (by (repeat' (with_reducible first | exact upd_eq | assumption | refine upd_ne (by kernel_rfl!) ?_))) (Ev.callB (b_min S' (by (refine EnvG.mk' ?_ ?_ ?_ <;> kernel_rfl!)) (by kernel_rfl!)) (EvS.cons (Ev.name upd_eq) EvS.nil (by kernel_rfl!)) ?_ (by kernel_rfl!)) ?_ (seqR_next (Ex.nil (loopR_next ⟨by (repeat' (with_reducible first | exact upd_eq | assumption | refine upd_ne (by kernel_rfl!) ?_)), by (repeat' (with_reducible first | exact upd_eq | assumption | refine upd_ne (by kernel_rfl!) ?_)), ?_⟩))) (by kernel_rfl!) (by kernel_rfl!) (by kernel_rfl!))
      · unfold WD
        rw [← leastW_eq hw, show (waysAt ws room (bestAt ws room i) (1 + i) ws.length).map (fun t => tupI (gW t)) = ((waysAt ws room (bestAt ws room i) (1 + i) ws.length).map gW).map tupI by rw [List.map_map]; rfl]
        exact CallR.minT S' (m := 3) (fun x hx => by obtain ⟨t, _, rfl⟩ := List.mem_map.mp hx; rfl) (by rw [List.length_map]; exact hw)
      · rw [List.length_map, bestAt_len]; exact Nat.le_trans (Nat.le_trans (Nat.le_of_lt (by rw [Nat.add_comm]; exact hm2)) hpow : i + 1 ≤ 32) (by decide)
      · rw [bestAt, List.map_append]; exact upd_eq
    case step2 =>
      rintro k d σ2 hd ⟨g1, g2, g3, g4, g5⟩
      obtain ⟨hk, rfl⟩ := rng_at hd
      rw [Int.zero_add]
      have hk5 : k ≤ 33 := Nat.le_of_lt (Nat.lt_of_lt_of_le hk hl33)
      refine ⟨_, Asg.name (by (first | (refine Wr.loc ?_ ?_ ?_ <;> kernel_rfl!) | (refine Wr.cell ?_ ?_ ?_ <;> kernel_rfl!))), ?_⟩
      refine Ex.cons (Ex1.ite (b := (1 + i).testBit k) ?tst (fun q => ?yes) fun q => ?no)
      case tst =>
        have eb := bit_int (1 + i) k
        rw [← eb, show (((1 + i : Nat)) : Int) = 1 + (i : Int) by push_cast; rfl]
        exact EvT.of (Ev.bin (Ev.bin (Ev.name (by (repeat' (with_reducible first | exact upd_eq | assumption | refine upd_ne (by kernel_rfl!) ?_)))) (Ev.name upd_eq) (Bin.shr (Int.natCast_nonneg _))) Ev.int Bin.and) Tru.int (by kernel_rfl!)
      case no =>
        refine Ex.nil (seqR_next (Ex.nil (loopR_next ⟨by (repeat' (with_reducible first | exact upd_eq | assumption | refine upd_ne (by kernel_rfl!) ?_)), by (repeat' (with_reducible first | exact upd_eq | assumption | refine upd_ne (by kernel_rfl!) ?_)), by (repeat' (with_reducible first | exact upd_eq | assumption | refine upd_ne (by kernel_rfl!) ?_)), by (repeat' (with_reducible first | exact upd_eq | assumption | refine upd_ne (by kernel_rfl!) ?_)), ?_⟩)))
        rw [waysAt, if_neg (by rw [q]; decide)]
        (repeat' (with_reducible first | exact upd_eq | assumption | refine upd_ne (by kernel_rfl!) ?_))
      case yes =>
        have hge : 2 ^ k ≤ 1 + i := Nat.ge_two_pow_of_testBit q
        have hlt : 1 + i - 2 ^ k < i + 1 := by rw [Nat.add_comm 1 i]; exact Nat.sub_lt (Nat.succ_pos i) (Nat.two_pow_pos k)
        obtain ⟨t, ht⟩ : ∃ t, (bestAt ws room i)[1 + i - 2 ^ k]? = some t := ⟨_, List.getElem?_eq_getElem (by rw [bestAt_len]; exact hlt)⟩
        have htd : (bestAt ws room i).getD (1 + i - 2 ^ k) (0, 0, 0) = t := by rw [List.getD_eq_getElem?_getD, ht]; rfl
        have hkc : (2 : Int) ^ (k : Int).toNat = ((2 ^ k : Nat) : Int) := by rw [Int.toNat_natCast, pow_cast]
        have hsub : 1 + (i : Int) - 2 ^ (k : Int).toNat = ((1 + i - 2 ^ k : Nat) : Int) := by rw [hkc, Int.natCast_sub hge]; rfl
        refine Ex.cons (Ex1.assignT (d := WD t) (Ev.item (k := 1 + (i : Int) - 2 ^ (k : Int).toNat) (EvL.own (by (repeat' (with_reducible first | exact upd_eq | assumption | refine upd_ne (by kernel_rfl!) ?_)))) (Ev.bin (Ev.name (by (repeat' (with_reducible first | exact upd_eq | assumption | refine upd_ne (by kernel_rfl!) ?_)))) (Ev.bin Ev.int (Ev.name upd_eq) (Bin.pow (Int.natCast_nonneg _) (pow2_ok (i20 hk5)))) Bin.sub) ?_ ?_ ?_ (by kernel_rfl!)) (Asg.tup S' (AsgL.cons (Asg.name (by (first | (refine Wr.loc ?_ ?_ ?_ <;> kernel_rfl!) | (refine Wr.cell ?_ ?_ ?_ <;> kernel_rfl!)))) (AsgL.cons (Asg.name (by (first | (refine Wr.loc ?_ ?_ ?_ <;> kernel_rfl!) | (refine Wr.cell ?_ ?_ ?_ <;> kernel_rfl!)))) (AsgL.cons (Asg.name (by (first | (refine Wr.loc ?_ ?_ ?_ <;> kernel_rfl!) | (refine Wr.cell ?_ ?_ ?_ <;> kernel_rfl!)))) AsgL.nil (by kernel_rfl!)) (by kernel_rfl!)) (by kernel_rfl!)) (by kernel_rfl!) (by kernel_rfl!)) (seqR_next ?_) (by kernel_rfl!) (by kernel_rfl!))
        · rw [hsub]; exact Int.natCast_nonneg _
        · rw [hsub]; exact i63 (Nat.le_trans (Nat.sub_le _ _) (Nat.le_trans (Nat.le_of_lt hm2) (Nat.le_trans hpow (by decide))))
        · rw [show (1 + (i : Int) - 2 ^ (k : Int).toNat).toNat = 1 + i - 2 ^ k by rw [hsub]; exact Int.toNat_natCast _, List.getElem?_map, ht]; rfl
        refine Ex.cons (Ex1.assign (d := .bool (decide (t.2.1 + ws.getD k 0 ≤ room))) (Ev.cmp (Ev.bin (d₁ := .int t.2.1) (Ev.name (by (repeat' (with_reducible first | exact upd_eq | assumption | refine upd_ne (by kernel_rfl!) ?_)))) (Ev.item (EvL.of (Ev.name (by (repeat' (with_reducible first | exact upd_eq | assumption | refine upd_ne (by kernel_rfl!) ?_))))) (Ev.name (by (repeat' (with_reducible first | exact upd_eq | assumption | refine upd_ne (by kernel_rfl!) ?_)))) (Int.natCast_nonneg _) (i63 hk5) (intL_getD (i := k) hk) (by kernel_rfl!)) Bin.add) (Ev.name (by (repeat' (with_reducible first | exact upd_eq | assumption | refine upd_ne (by kernel_rfl!) ?_)))) Cmp.le (by kernel_rfl!)) (by (first | (refine Wr.loc ?_ ?_ ?_ <;> kernel_rfl!) | (refine Wr.cell ?_ ?_ ?_ <;> kernel_rfl!))) (seqR_next ?_) (by kernel_rfl!))
        refine Ex.cons (Ex1.append (ds := (waysAt ws room (bestAt ws room i) (1 + i) k).map WD) (d := WD (wayB ws room t k)) (by (repeat' (with_reducible first | exact upd_eq | assumption | refine upd_ne (by kernel_rfl!) ?_))) (Ev.ite (c := decide (t.2.1 + ws.getD k 0 ≤ room)) (EvT.of (Ev.name upd_eq) Tru.bool (by kernel_rfl!)) (fun f => ?fits) fun f => ?over) ?_ (seqR_next (Ex.nil (seqR_next (Ex.nil (loopR_next ⟨by (repeat' (with_reducible first | exact upd_eq | assumption | refine upd_ne (by kernel_rfl!) ?_)), by (repeat' (with_reducible first | exact upd_eq | assumption | refine upd_ne (by kernel_rfl!) ?_)), by (repeat' (with_reducible first | exact upd_eq | assumption | refine upd_ne (by kernel_rfl!) ?_)), by (repeat' (with_reducible first | exact upd_eq | assumption | refine upd_ne (by kernel_rfl!) ?_)), ?_⟩))))) (by kernel_rfl!) (by kernel_rfl!) (by kernel_rfl!))
        case fits =>
          rw [show wayB ws room t k = (t.1, t.2.1 + ws.getD k 0, k) from if_pos (of_decide_eq_true f)]
          exact Ev.tup (ds := [.int t.1, .int (t.2.1 + ws.getD k 0), .int k]) (EvS.cons (Ev.name (by (repeat' (with_reducible first | exact upd_eq | assumption | refine upd_ne (by kernel_rfl!) ?_)))) (EvS.cons (Ev.bin (d₁ := .int t.2.1) (Ev.name (by (repeat' (with_reducible first | exact upd_eq | assumption | refine upd_ne (by kernel_rfl!) ?_)))) (Ev.item (EvL.of (Ev.name (by (repeat' (with_reducible first | exact upd_eq | assumption | refine upd_ne (by kernel_rfl!) ?_))))) (Ev.name (by (repeat' (with_reducible first | exact upd_eq | assumption | refine upd_ne (by kernel_rfl!) ?_)))) (Int.natCast_nonneg _) (i63 hk5) (intL_getD (i := k) hk) (by kernel_rfl!)) Bin.add) (EvS.cons (Ev.name (by (repeat' (with_reducible first | exact upd_eq | assumption | refine upd_ne (by kernel_rfl!) ?_)))) EvS.nil (by kernel_rfl!)) (by kernel_rfl!)) (by kernel_rfl!)) (Nat.le_of_ble_eq_true rfl)
        case over =>
          rw [show wayB ws room t k = (t.1 + 1, ws.getD k 0, k) from if_neg (of_decide_eq_false f)]
          exact Ev.tup (ds := [.int (t.1 + 1), .int (ws.getD k 0), .int k]) (EvS.cons (Ev.bin (d₁ := .int t.1) (Ev.name (by (repeat' (with_reducible first | exact upd_eq | assumption | refine upd_ne (by kernel_rfl!) ?_)))) Ev.int Bin.add) (EvS.cons (Ev.item (EvL.of (Ev.name (by (repeat' (with_reducible first | exact upd_eq | assumption | refine upd_ne (by kernel_rfl!) ?_))))) (Ev.name (by (repeat' (with_reducible first | exact upd_eq | assumption | refine upd_ne (by kernel_rfl!) ?_)))) (Int.natCast_nonneg _) (i63 hk5) (intL_getD (i := k) hk) (by kernel_rfl!)) (EvS.cons (Ev.name (by (repeat' (with_reducible first | exact upd_eq | assumption | refine upd_ne (by kernel_rfl!) ?_)))) EvS.nil (by kernel_rfl!)) (by kernel_rfl!)) (by kernel_rfl!)) (Nat.le_of_ble_eq_true rfl)
        · rw [List.length_map]; exact Nat.le_trans (waysAt_len _ _ _ _ k) (Nat.le_trans hk5 (by decide))
        · rw [waysAt, if_pos q, List.map_append, htd]; exact upd_eq
  case done =>
    rintro σ' ⟨h1, h2, h3⟩
    rw [List.length_map, List.length_range] at h3
    have hN : 2 ^ ws.length - 1 + 1 = 2 ^ ws.length := Nat.sub_add_cancel hpos
    generalize hNe : 2 ^ ws.length - 1 = N at h3
    have hN33 : N ≤ 33 := by rw [← hNe]; exact Nat.le_trans (Nat.sub_le _ _) (Nat.le_trans hpow (by decide))
    refine seqR_next (Ex.cons (Ex1.assignN (ds := intL (List.replicate ws.length 0)) (EvN.of_eq (EvN.mulL (n := (ws.length : Int)) (ds := [.int 0]) (Ev.lst (EvS.cons Ev.int EvS.nil (by kernel_rfl!)) (by decide)) (Ev.lenName S' (by (refine EnvG.mk' ?_ ?_ ?_ <;> kernel_rfl!)) (by kernel_rfl!) (EvL.of (Ev.name (by (repeat' (with_reducible first | exact upd_eq | assumption | refine upd_ne (by kernel_rfl!) ?_))))) (List.length_map _) hl31) (Int.natCast_nonneg _) (i40 hl33) ?hz) ?heq) (by (first | (refine Wr.loc ?_ ?_ ?_ <;> kernel_rfl!) | (refine Wr.cell ?_ ?_ ?_ <;> kernel_rfl!))) (seqR_next ?_) (by kernel_rfl!)))
    case hz => show 1 * ((ws.length : Int)).toNat ≤ _; rw [Int.toNat_natCast, Nat.one_mul]; exact Nat.le_trans hn (by decide)
    case heq => rw [Int.toNat_natCast, flat_one]; simp [intL]
    refine Ex.cons (Ex1.assign (d := .int (N : Int)) (Ev.of_eq (Ev.bin (Ev.lenName (n := N + 1) S' (by (refine EnvG.mk' ?_ ?_ ?_ <;> kernel_rfl!)) (by kernel_rfl!) (EvL.own (by (repeat' (with_reducible first | exact upd_eq | assumption | refine upd_ne (by kernel_rfl!) ?_)))) (by rw [List.length_map, bestAt_len]) (Nat.lt_of_le_of_lt (Nat.succ_le_succ hN33) (by decide))) Ev.int Bin.sub) (by congr 1; exact cast_pred _)) (by (first | (refine Wr.loc ?_ ?_ ?_ <;> kernel_rfl!) | (refine Wr.cell ?_ ?_ ?_ <;> kernel_rfl!))) (seqR_next ?_) (by kernel_rfl!))
    refine Ex.cons (Ex1.while (fun m σ => ∃ f w, m ≤ f ∧ m ≤ N ∧ w.length = ws.length ∧ placeF (bestAt ws room N) f m w = placeF (bestAt ws room N) N N (List.replicate ws.length 0) ∧ σ (Str.ofString "mask") = some (.imm (.int (m : Int))) ∧ σ (Str.ofString "best") = some (.own ((bestAt ws room N).map WD)) ∧ σ (Str.ofString "where") = some (.own (intL w))) N ⟨N, _, Nat.le_refl _, Nat.le_refl _, List.length_replicate, rfl, upd_eq, by (repeat' (with_reducible first | exact upd_eq | assumption | refine upd_ne (by kernel_rfl!) ?_)), by (repeat' (with_reducible first | exact upd_eq | assumption | refine upd_ne (by kernel_rfl!) ?_))⟩ ?turn)
    case turn =>
      rintro m σ2 ⟨f, w, hf, hmN, hwl, hpl, g1, g2, g3⟩
      refine ⟨decide ((0 : Int) < m), EvT.cmp (Ev.name (by (repeat' (with_reducible first | exact upd_eq | assumption | refine upd_ne (by kernel_rfl!) ?_)))) Ev.int Cmp.gt (by kernel_rfl!), fun q => ?go, fun q => ?stop⟩
      case stop =>
        have hm0 : m = 0 := Nat.eq_zero_of_not_pos fun q' => of_decide_eq_false q (Int.ofNat_lt.mpr q')
        subst hm0
        have : placeF (bestAt ws room N) f 0 w = w := by cases f <;> rfl
        rw [this] at hpl
        rw [← hpl]
        exact seqR_next (Ex.freeze (Str.ofString "where") g3 h0 (Ex.cons (Ex1.ret (Ev.name upd_eq) (seqR_ret rfl))))
      case go =>
        have hm0 : 0 < m := Int.ofNat_lt.mp (show ((0 : Nat) : Int) < (m : Int) from of_decide_eq_true q)
        obtain ⟨t, ht, htl, htb⟩ := bestAt_last ws room (N := N) (m := m) hm0 hmN (Nat.lt_of_le_of_lt hmN (by rw [← hN, hNe]; exact Nat.lt_succ_self N))
        have hge : 2 ^ t.2.2 ≤ m := Nat.ge_two_pow_of_testBit htb
        have h2p : 1 ≤ 2 ^ t.2.2 := Nat.one_le_two_pow
        have hkc : (2 : Int) ^ (t.2.2 : Int).toNat = ((2 ^ t.2.2 : Nat) : Int) := by rw [Int.toNat_natCast, pow_cast]
        refine Ex.cons (Ex1.assignT (d := WD t) (Ev.item (k := (m : Int)) (EvL.own (by (repeat' (with_reducible first | exact upd_eq | assumption | refine upd_ne (by kernel_rfl!) ?_)))) (Ev.name (by (repeat' (with_reducible first | exact upd_eq | assumption | refine upd_ne (by kernel_rfl!) ?_)))) (Int.natCast_nonneg _) (i63 (Nat.le_trans hmN hN33)) ?_ (by kernel_rfl!)) (Asg.tup S' (AsgL.cons (Asg.name (by (first | (refine Wr.loc ?_ ?_ ?_ <;> kernel_rfl!) | (refine Wr.cell ?_ ?_ ?_ <;> kernel_rfl!)))) (AsgL.cons (Asg.name (by (first | (refine Wr.loc ?_ ?_ ?_ <;> kernel_rfl!) | (refine Wr.cell ?_ ?_ ?_ <;> kernel_rfl!)))) (AsgL.cons (Asg.name (by (first | (refine Wr.loc ?_ ?_ ?_ <;> kernel_rfl!) | (refine Wr.cell ?_ ?_ ?_ <;> kernel_rfl!)))) AsgL.nil (by kernel_rfl!)) (by kernel_rfl!)) (by kernel_rfl!)) (by kernel_rfl!) (by kernel_rfl!)) (seqR_next ?_) (by kernel_rfl!) (by kernel_rfl!))
        · rw [Int.toNat_natCast, List.getElem?_map, ht]; rfl
        refine Ex.cons (Ex1.setItem (ds := intL w) (k := (t.2.2 : Int)) (d := .int t.1) (by (repeat' (with_reducible first | exact upd_eq | assumption | refine upd_ne (by kernel_rfl!) ?_))) (Ev.name (by (repeat' (with_reducible first | exact upd_eq | assumption | refine upd_ne (by kernel_rfl!) ?_)))) (Ev.name (by (repeat' (with_reducible first | exact upd_eq | assumption | refine upd_ne (by kernel_rfl!) ?_)))) (Int.natCast_nonneg _) (by rw [List.length_map, hwl]; exact Int.ofNat_lt.mpr htl) (by rw [List.length_map, hwl]; exact Nat.le_trans hn (by decide)) (seqR_next ?_) (by kernel_rfl!))
        refine Ex.cons (Ex1.aug (a := (m : Int)) (b := 2 ^ (t.2.2 : Int).toNat) (by (repeat' (with_reducible first | exact upd_eq | assumption | refine upd_ne (by kernel_rfl!) ?_))) (Ev.bin Ev.int (Ev.name (by (repeat' (with_reducible first | exact upd_eq | assumption | refine upd_ne (by kernel_rfl!) ?_)))) (Bin.pow (Int.natCast_nonneg _) (pow2_ok (i20 (Nat.le_trans (Nat.le_of_lt htl) hl33))))) Inp.sub (seqR_next (Ex.nil (whileR_next (m := m - 2 ^ t.2.2) (Nat.sub_lt hm0 (Nat.two_pow_pos _)) ?_))))
        obtain ⟨f, rfl⟩ : ∃ f', f = f' + 1 := ⟨f - 1, (Nat.sub_add_cancel (Nat.le_trans hm0 hf)).symm⟩
        have htd : (bestAt ws room N).getD m (0, 0, 0) = t := by rw [List.getD_eq_getElem?_getD, ht]; rfl
        rw [placeF, if_neg (Nat.ne_of_gt hm0), htd] at hpl
        refine ⟨f, _, Nat.le_of_lt_succ (Nat.lt_of_lt_of_le (Nat.sub_lt hm0 (Nat.two_pow_pos _)) hf), Nat.le_trans (Nat.sub_le _ _) hmN, ?_, hpl, ?_, by (repeat' (with_reducible first | exact upd_eq | assumption | refine upd_ne (by kernel_rfl!) ?_)), ?_⟩
        · rw [List.length_set]; exact hwl
        · rw [show (((m - 2 ^ t.2.2 : Nat)) : Int) = (m : Int) - 2 ^ (t.2.2 : Int).toNat by rw [hkc]; exact Int.natCast_sub hge]; exact upd_eq
        · rw [← intL_set', Int.toNat_natCast]; (repeat' (with_reducible first | exact upd_eq | assumption | refine upd_ne (by kernel_rfl!) ?_))

/-! part W9 -/
noncomputable def ord1 (n : Int) : List Int := [0, 1, 2, 3].eraseIdx (n.fmod 4).toNat
noncomputable def ord2 (n : Int) : List Int := (ord1 n).eraseIdx ((n.fdiv 4).fmod 3).toNat
noncomputable def ord3 (n : Int) : List Int := (ord2 n).eraseIdx (n.fdiv 12).toNat
noncomputable def orderF (n : Int) : List Int := [[0, 1, 2, 3].getD (n.fmod 4).toNat 0, (ord1 n).getD ((n.fdiv 4).fmod 3).toNat 0, (ord2 n).getD (n.fdiv 12).toNat 0, (ord3 n).getD 0 0]
theorem erase_int (ns : List Int) (i : Nat) : (intL ns).eraseIdx i = intL (ns.eraseIdx i) := by
  induction ns generalizing i with
  | nil => rfl
  | cons a r ih => cases i with
    | zero => rfl
    | succ i => show .int a :: (intL r).eraseIdx i = _; rw [ih]; rfl
set_option maxHeartbeats 400000 in
theorem order_fn {Γ : G} {k : Nat} (S : Site Γ (k + 1)) (n : Int) (h0n : 0 ≤ n) (hn : n < 24) : CallR Γ (.ref 126) [.int n] (.lst (intL (orderF n))) := by
  have m1 : 0 ≤ n.fmod 4 := Int.fmod_nonneg_of_pos n (by decide)
  have m2 : n.fmod 4 < 4 := Int.fmod_lt_of_pos n (by decide)
  have m3 : 0 ≤ (n.fdiv 4).fmod 3 := Int.fmod_nonneg_of_pos _ (by decide)
  have m4 : (n.fdiv 4).fmod 3 < 3 := Int.fmod_lt_of_pos _ (by decide)
  have m5 : n.fdiv 12 = n / 12 := Int.fdiv_eq_ediv_of_nonneg _ (by decide)
  have e1 : (ord1 n).length = 3 := by unfold ord1; rw [List.length_eraseIdx]; simp; omega
  have e2 : (ord2 n).length = 2 := by unfold ord2; rw [List.length_eraseIdx, e1]; rw [if_pos (by omega)]
  have e3 : (ord3 n).length = 1 := by unfold ord3; rw [List.length_eraseIdx, e2]; rw [if_pos (by omega)]
  k_dflt (refine' Fn.enter (ps := [Str.ofString "number"]) ?ho ?hcd ?hb ?hl ?hk ?c1 ?c2 ?c3 S ?body)
  case ho => intro P; k_is
  case hcd => intro P; k_is
  case hb => exact vs1 rfl fun _ => rfl
  case hl => rfl
  case hk => exact ⟨⟨by first | exact .inl ⟨by kernel_rfl!, fun n => by kernel_rfl!⟩ | exact .inr ⟨by kernel_rfl!, fun n => by kernel_rfl!⟩, by decide⟩, trivial⟩
  case c1 => rfl
  case c2 => rfl
  case c3 => rfl
  intro Γ' S' h0
  have p1 : parS [Str.ofString "number"] [(.int n)] (Str.ofString "number") = some (.imm (.int n)) := by kernel_rfl!
  generalize parS [Str.ofString "number"] [(.int n)] = σ at p1
  refine Ex.cons (Ex1.assignN (ds := intL [0, 1, 2, 3]) (EvN.of_eq (EvN.lst (ds := [.int 0, .int 1, .int 2, .int 3]) (by (repeat' (with_reducible first | exact Ev.int | exact Ev.flt | exact Ev.str | exact Ev.name (by (repeat' (with_reducible first | exact upd_eq | assumption | refine upd_ne (by kernel_rfl!) ?_))) | apply Ev.bin | exact Bin.add | exact Bin.addF | exact Bin.subF | exact Bin.mulF | exact Bin.sub | exact Bin.mod (by k_dflt (first | with_reducible assumption | decide | omega)) | exact Bin.fdiv (by k_dflt (first | with_reducible assumption | decide | omega)) (fdiv_small (by k_dflt (first | with_reducible assumption | decide | omega))) | exact Bin.mul (IntMulOk.of_left (by k_dflt first | with_reducible assumption | decide)) | exact Bin.mul (IntMulOk.of_right (by k_dflt first | with_reducible assumption | decide)) | apply Ev.cmp (hm := by kernel_rfl!) | apply EvT.cmp (hm := by kernel_rfl!) | exact Cmp.lt | exact Cmp.gt | exact Cmp.le | exact Cmp.ge | exact Cmp.eq | exact Cmp.ne | exact EvS.nil | apply EvS.cons (hs := by kernel_rfl!) | refine Ev.tup ?_ (by k_dflt exact Nat.le_of_ble_eq_true rfl) | apply Ev.callB (b_abs (by assumption) (by (refine EnvG.mk' ?_ ?_ ?_ <;> kernel_rfl!)) (by kernel_rfl!)) (h1 := by kernel_rfl!) | apply Ev.callB (b_max (by assumption) (by (refine EnvG.mk' ?_ ?_ ?_ <;> kernel_rfl!)) (by kernel_rfl!)) (h1 := by kernel_rfl!) | apply Ev.callB (b_min (by assumption) (by (refine EnvG.mk' ?_ ?_ ?_ <;> kernel_rfl!)) (by kernel_rfl!)) (h1 := by kernel_rfl!) | exact CallR.abs | exact CallR.max2 (by assumption) | exact CallR.min2 (by assumption)))) (by decide)) rfl) (by (first | (refine Wr.loc ?_ ?_ ?_ <;> kernel_rfl!) | (refine Wr.cell ?_ ?_ ?_ <;> kernel_rfl!))) (seqR_next ?_) (by kernel_rfl!))
  refine Ex.cons (Ex1.retX (ds := intL (orderF n)) (EvXS.cons (EvX.popAt (ds := intL [0, 1, 2, 3]) (i := n.fmod 4) (by (repeat' (with_reducible first | exact upd_eq | assumption | refine upd_ne (by kernel_rfl!) ?_))) (by (repeat' (with_reducible first | exact Ev.int | exact Ev.flt | exact Ev.str | exact Ev.name (by (repeat' (with_reducible first | exact upd_eq | assumption | refine upd_ne (by kernel_rfl!) ?_))) | apply Ev.bin | exact Bin.add | exact Bin.addF | exact Bin.subF | exact Bin.mulF | exact Bin.sub | exact Bin.mod (by k_dflt (first | with_reducible assumption | decide | omega)) | exact Bin.fdiv (by k_dflt (first | with_reducible assumption | decide | omega)) (fdiv_small (by k_dflt (first | with_reducible assumption | decide | omega))) | exact Bin.mul (IntMulOk.of_left (by k_dflt first | with_reducible assumption | decide)) | exact Bin.mul (IntMulOk.of_right (by k_dflt first | with_reducible assumption | decide)) | apply Ev.cmp (hm := by kernel_rfl!) | apply EvT.cmp (hm := by kernel_rfl!) | exact Cmp.lt | exact Cmp.gt | exact Cmp.le | exact Cmp.ge | exact Cmp.eq | exact Cmp.ne | exact EvS.nil | apply EvS.cons (hs := by kernel_rfl!) | refine Ev.tup ?_ (by k_dflt exact Nat.le_of_ble_eq_true rfl) | apply Ev.callB (b_abs (by assumption) (by (refine EnvG.mk' ?_ ?_ ?_ <;> kernel_rfl!)) (by kernel_rfl!)) (h1 := by kernel_rfl!) | apply Ev.callB (b_max (by assumption) (by (refine EnvG.mk' ?_ ?_ ?_ <;> kernel_rfl!)) (by kernel_rfl!)) (h1 := by kernel_rfl!) | apply Ev.callB (b_min (by assumption) (by (refine EnvG.mk' ?_ ?_ ?_ <;> kernel_rfl!)) (by kernel_rfl!)) (h1 := by kernel_rfl!) | exact CallR.abs | exact CallR.max2 (by assumption) | exact CallR.min2 (by assumption)))) m1 (intL_getD (by show _ < 4; omega)) (by decide) (by kernel_rfl!) (by kernel_rfl!))
    (EvXS.cons (EvX.popAt (ds := intL (ord1 n)) (i := (n.fdiv 4).fmod 3) ?a1 (by (repeat' (with_reducible first | exact Ev.int | exact Ev.flt | exact Ev.str | exact Ev.name (by (repeat' (with_reducible first | exact upd_eq | assumption | refine upd_ne (by kernel_rfl!) ?_))) | apply Ev.bin | exact Bin.add | exact Bin.addF | exact Bin.subF | exact Bin.mulF | exact Bin.sub | exact Bin.mod (by k_dflt (first | with_reducible assumption | decide | omega)) | exact Bin.fdiv (by k_dflt (first | with_reducible assumption | decide | omega)) (fdiv_small (by k_dflt (first | with_reducible assumption | decide | omega))) | exact Bin.mul (IntMulOk.of_left (by k_dflt first | with_reducible assumption | decide)) | exact Bin.mul (IntMulOk.of_right (by k_dflt first | with_reducible assumption | decide)) | apply Ev.cmp (hm := by kernel_rfl!) | apply EvT.cmp (hm := by kernel_rfl!) | exact Cmp.lt | exact Cmp.gt | exact Cmp.le | exact Cmp.ge | exact Cmp.eq | exact Cmp.ne | exact EvS.nil | apply EvS.cons (hs := by kernel_rfl!) | refine Ev.tup ?_ (by k_dflt exact Nat.le_of_ble_eq_true rfl) | apply Ev.callB (b_abs (by assumption) (by (refine EnvG.mk' ?_ ?_ ?_ <;> kernel_rfl!)) (by kernel_rfl!)) (h1 := by kernel_rfl!) | apply Ev.callB (b_max (by assumption) (by (refine EnvG.mk' ?_ ?_ ?_ <;> kernel_rfl!)) (by kernel_rfl!)) (h1 := by kernel_rfl!) | apply Ev.callB (b_min (by assumption) (by (refine EnvG.mk' ?_ ?_ ?_ <;> kernel_rfl!)) (by kernel_rfl!)) (h1 := by kernel_rfl!) | exact CallR.abs | exact CallR.max2 (by assumption) | exact CallR.min2 (by assumption)))) m3 (intL_getD (by rw [e1]; omega)) ?z1 (by kernel_rfl!) (by kernel_rfl!))
    (EvXS.cons (EvX.popAt (ds := intL (ord2 n)) (i := n.fdiv 12) ?a2 (by (repeat' (with_reducible first | exact Ev.int | exact Ev.flt | exact Ev.str | exact Ev.name (by (repeat' (with_reducible first | exact upd_eq | assumption | refine upd_ne (by kernel_rfl!) ?_))) | apply Ev.bin | exact Bin.add | exact Bin.addF | exact Bin.subF | exact Bin.mulF | exact Bin.sub | exact Bin.mod (by k_dflt (first | with_reducible assumption | decide | omega)) | exact Bin.fdiv (by k_dflt (first | with_reducible assumption | decide | omega)) (fdiv_small (by k_dflt (first | with_reducible assumption | decide | omega))) | exact Bin.mul (IntMulOk.of_left (by k_dflt first | with_reducible assumption | decide)) | exact Bin.mul (IntMulOk.of_right (by k_dflt first | with_reducible assumption | decide)) | apply Ev.cmp (hm := by kernel_rfl!) | apply EvT.cmp (hm := by kernel_rfl!) | exact Cmp.lt | exact Cmp.gt | exact Cmp.le | exact Cmp.ge | exact Cmp.eq | exact Cmp.ne | exact EvS.nil | apply EvS.cons (hs := by kernel_rfl!) | refine Ev.tup ?_ (by k_dflt exact Nat.le_of_ble_eq_true rfl) | apply Ev.callB (b_abs (by assumption) (by (refine EnvG.mk' ?_ ?_ ?_ <;> kernel_rfl!)) (by kernel_rfl!)) (h1 := by kernel_rfl!) | apply Ev.callB (b_max (by assumption) (by (refine EnvG.mk' ?_ ?_ ?_ <;> kernel_rfl!)) (by kernel_rfl!)) (h1 := by kernel_rfl!) | apply Ev.callB (b_min (by assumption) (by (refine EnvG.mk' ?_ ?_ ?_ <;> kernel_rfl!)) (by kernel_rfl!)) (h1 := by kernel_rfl!) | exact CallR.abs | exact CallR.max2 (by assumption) | exact CallR.min2 (by assumption)))) (by omega) (intL_getD (by rw [e2]; omega)) ?z2 (by kernel_rfl!) (by kernel_rfl!))
    (EvXS.cons (EvX.popLast (ds := intL (ord3 n)) ?a3 ?g3 ?z3 (by kernel_rfl!)) EvXS.nil (by kernel_rfl!)) (by kernel_rfl!)) (by kernel_rfl!)) (by kernel_rfl!)) (Nat.le_of_ble_eq_true rfl) (seqR_ret rfl))
  case a1 => rw [erase_int]; exact upd_eq
  case a2 => rw [erase_int (ord1 n)]; exact upd_eq
  case a3 => rw [erase_int (ord2 n)]; exact upd_eq
  case z1 => rw [List.length_map, e1]; decide
  case z2 => rw [List.length_map, e2]; decide
  case z3 => rw [List.length_map, e3]; decide
  case g3 => rw [List.length_map, e3]; exact intL_getD (by rw [e3]; decide)

/-! part W10 -/
noncomputable abbrev natL (l : List Nat) : List D := l.map fun x : Nat => D.int (x : Int)
theorem natL_get {l : List Nat} {i : Nat} (h : i < l.length) : (natL l)[i]? = some (.int (l.getD i 0 : Nat)) := by
  rw [List.getElem?_map, List.getD_eq_getElem?_getD, List.getElem?_eq_getElem h]; rfl
theorem natL_set {l : List Nat} {i v : Nat} : (natL l).set i (.int (v : Int)) = natL (l.set i v) := (List.map_set).symm
theorem slice_from {ds : List D} {n : Nat} : sliceD ds (some (n : Int)) none = ds.drop n := by
  unfold sliceD
  have h : kms_lo (some (n : Int)) ds.length = min n ds.length := by
    unfold kms_lo
    simp only
    rw [if_neg (by omega)]; simp
  have h2 : kms_hi none ds.length = ds.length := rfl
  rw [h, h2]
  rcases Nat.le_total n ds.length with q | q
  · rw [Nat.min_eq_left q, List.take_of_length_le (by rw [List.length_drop]; exact Nat.le_refl _)]
  · rw [Nat.min_eq_right q, List.drop_of_length_le (Nat.le_refl _), List.drop_of_length_le q]; simp
theorem take_getD {l : List Nat} {j : Nat} (h : j < l.length) : l.take (j + 1) = l.take j ++ [l.getD j 0] := by
  rw [List.take_add_one, List.getElem?_eq_getElem h, List.getD_eq_getElem?_getD, List.getElem?_eq_getElem h]; rfl
theorem boolL_get {l : List Bool} {i : Nat} (h : i < l.length) : (boolL l)[i]? = some (.bool (l.getD i false)) := by
  rw [List.getElem?_map, List.getD_eq_getElem?_getD, List.getElem?_eq_getElem h]; rfl
theorem getD_mem' {α : Type} {l : List α} {i : Nat} {d : α} (h : i < l.length) : l.getD i d ∈ l := by
  rw [List.getD_eq_getElem?_getD, List.getElem?_eq_getElem h]; exact List.getElem_mem h
theorem sum_take_bound : ∀ (ns : List Int) (B : Int), (∀ a ∈ ns, 0 ≤ a ∧ a ≤ B) → 0 ≤ ns.sum ∧ ns.sum ≤ ns.length * B
  | [], B, _ => by simp
  | a :: r, B, h => by
    have h1 := h a List.mem_cons_self
    have h2 := sum_take_bound r B fun x hx => h x (List.mem_cons_of_mem _ hx)
    rw [List.sum_cons, List.length_cons]
    have : ((r.length + 1 : Nat) : Int) * B = r.length * B + B := by push_cast; rw [Int.add_mul, Int.one_mul]
    omega
theorem sum_fit {ns : List Int} {B : Int} (h : ∀ a ∈ ns, 0 ≤ a ∧ a ≤ B) (hB0 : 0 ≤ B) (hB : B ≤ 2 ^ 40) (hl : ns.length ≤ 64) : ∀ j, j < ns.length → InLong (ns.getD j 0) ∧ InLong (ns.take (j + 1)).sum := by
  intro j hj
  have h1 := h _ (getD_mem' (d := 0) hj)
  have h2 := sum_take_bound (ns.take (j + 1)) B fun a ha => h a (List.mem_of_mem_take ha)
  have h3 : ((ns.take (j + 1)).length : Int) * B ≤ 64 * B := Int.mul_le_mul_of_nonneg_right (by rw [List.length_take]; omega) hB0
  have p40 : (2 : Int) ^ 40 = 1099511627776 := by decide
  have p63 : (2 : Int) ^ 63 = 9223372036854775808 := by decide
  constructor
  · unfold InLong; omega
  · unfold InLong; omega
noncomputable def ordD (orders : List (List Nat)) : D := .lst (orders.map fun o => .lst (natL o))
theorem ordD_at {orders : List (List Nat)} {k : Nat} (h : k < orders.length) : (orders.map fun o => D.lst (natL o))[k]? = some (.lst (natL (orders.getD k []))) := by
  rw [List.getElem?_map, List.getD_eq_getElem?_getD, List.getElem?_eq_getElem h]; rfl
theorem bits_nat {a : Nat} (h : a < 2 ^ 32) : Builtin.Int.intBits (a : Int) ≤ 64 := bits_small (by
  have : (2 : Nat) ^ 32 < 2 ^ 64 := by decide
  omega)
set_option maxHeartbeats 1000000 in
theorem beaten_fn {Γ : G} {k : Nat} (S : Site Γ (k + 1 + 1)) (orders : List (List Nat)) (wins : List Bool) (size : Nat) (hn0 : 0 < orders.length) (hn : orders.length ≤ 5) (hs : size ≤ 5) (ok : ∀ o ∈ orders, OrdOk size o) (hw : wins.length = 2 ^ orders.length) :
    CallR Γ (.ref 141) [ordD orders, .lst (boolL wins)] (.lst (natL (beatenF orders wins size))) := by
  have hss : size * size ≤ 25 := Nat.mul_le_mul hs hs
  have h33 : orders.length ≤ 33 := Nat.le_trans hn (by decide)
  have s33 : size ≤ 33 := Nat.le_trans hs (by decide)
  have b32 : size < 2 ^ 32 := Nat.lt_of_le_of_lt hs (by decide)
  have okk : ∀ k, k < orders.length → OrdOk size (orders.getD k []) := fun k hk => ok _ (getD_mem' hk)
  k_dflt (refine' Fn.enter (ps := [Str.ofString "orders", Str.ofString "wins"]) ?ho ?hcd ?hb ?hl ?hk ?c1 ?c2 ?c3 S ?body)
  case ho => intro P; k_is
  case hcd => intro P; k_is
  case hb => exact vs2 rfl fun _ _ => rfl
  case hl => rfl
  case hk => exact ⟨⟨by first | exact .inl ⟨by kernel_rfl!, fun n => by kernel_rfl!⟩ | exact .inr ⟨by kernel_rfl!, fun n => by kernel_rfl!⟩, by decide⟩, ⟨by first | exact .inl ⟨by kernel_rfl!, fun n => by kernel_rfl!⟩ | exact .inr ⟨by kernel_rfl!, fun n => by kernel_rfl!⟩, by decide⟩, trivial⟩
  case c1 => rfl
  case c2 => rfl
  case c3 => rfl
  intro Γ' S' h0
  have p1 : parS [Str.ofString "orders", Str.ofString "wins"] [(ordD orders), (.lst (boolL wins))] (Str.ofString "orders") = some (.imm (ordD orders)) := by kernel_rfl!
  have p2 : parS [Str.ofString "orders", Str.ofString "wins"] [(ordD orders), (.lst (boolL wins))] (Str.ofString "wins") = some (.imm (.lst (boolL wins))) := by kernel_rfl!
  generalize parS [Str.ofString "orders", Str.ofString "wins"] [(ordD orders), (.lst (boolL wins))] = σ at p1 p2
  have hit : ∀ {env : Env} {σ : Store} {e : Expr} {x : Str} {p pos : Pos} {k : Nat}, σ x = some (.imm (ordD orders)) → k < orders.length → Ev Γ' env σ e (.int k) → noSlice e = true → Ev Γ' env σ (.Subscript (.Name x p) e pos) (.lst (natL (orders.getD k []))) :=
    fun {env σ e x p pos k} hx hk he hsl => Ev.item (EvL.of (Ev.name hx)) he (Int.natCast_nonneg _) (i63 (Nat.le_trans (Nat.le_of_lt hk) h33)) (by rw [Int.toNat_natCast]; exact ordD_at hk) hsl
  refine Ex.cons (Ex1.assign (d := .int (size : Int)) (Ev.of_eq (Ev.callLen (ds := natL (orders.getD 0 [])) (b_len S' (by (refine EnvG.mk' ?_ ?_ ?_ <;> kernel_rfl!)) (by kernel_rfl!)) (EvL.of (hit (k := 0) p1 hn0 Ev.int (by kernel_rfl!))) ?l1 (by kernel_rfl!)) ?l2) (by (first | (refine Wr.loc ?_ ?_ ?_ <;> kernel_rfl!) | (refine Wr.cell ?_ ?_ ?_ <;> kernel_rfl!))) (seqR_next ?_) (by kernel_rfl!))
  case l1 => rw [List.length_map, (okk 0 hn0).len]; exact i63 s33
  case l2 => rw [List.length_map, (okk 0 hn0).len]
  refine Ex.cons (Ex1.assignN (ds := natL (abK orders size 0)) (EvN.of_eq (EvN.mulL (n := (size : Int) * (size : Int)) (ds := [.int 0]) (Ev.lst (EvS.cons Ev.int EvS.nil (by kernel_rfl!)) (by decide)) (Ev.bin (Ev.name upd_eq) (Ev.name upd_eq) (Bin.mul (IntMulOk.of_left (bits_nat b32)))) ?h0 ?h1 ?h2) ?heq) (by (first | (refine Wr.loc ?_ ?_ ?_ <;> kernel_rfl!) | (refine Wr.cell ?_ ?_ ?_ <;> kernel_rfl!))) (seqR_next ?_) (by kernel_rfl!))
  case h0 => rw [← Int.natCast_mul]; exact Int.natCast_nonneg _
  case h1 => rw [← Int.natCast_mul]; exact i40 (Nat.le_trans hss (by decide))
  case h2 => rw [← Int.natCast_mul, Int.toNat_natCast]; show 1 * _ ≤ _; rw [Nat.one_mul]; exact Nat.le_trans hss (by decide)
  case heq => rw [← Int.natCast_mul, Int.toNat_natCast, flat_one, abK, natL, List.map_replicate]; rfl
  refine Ex.cons (Ex1.loop (items := rng 0 orders.length) (fun k σ => σ (Str.ofString "orders") = some (.imm (ordD orders)) ∧ σ (Str.ofString "wins") = some (.imm (.lst (boolL wins))) ∧ σ (Str.ofString "size") = some (.imm (.int (size : Int))) ∧ σ (Str.ofString "above") = some (.own (natL (abK orders size k)))) (Src.range1 S' (b_range S' (by (refine EnvG.mk' ?_ ?_ ?_ <;> kernel_rfl!)) (by kernel_rfl!)) (Ev.lenName S' (by (refine EnvG.mk' ?_ ?_ ?_ <;> kernel_rfl!)) (by kernel_rfl!) (EvL.of (Ev.name (d := ordD orders) (by (repeat' (with_reducible first | exact upd_eq | assumption | refine upd_ne (by kernel_rfl!) ?_))))) (List.length_map _) (Nat.lt_of_le_of_lt hn (by decide))) (i40 h33) (by kernel_rfl!)) ⟨by (repeat' (with_reducible first | exact upd_eq | assumption | refine upd_ne (by kernel_rfl!) ?_)), by (repeat' (with_reducible first | exact upd_eq | assumption | refine upd_ne (by kernel_rfl!) ?_)), by (repeat' (with_reducible first | exact upd_eq | assumption | refine upd_ne (by kernel_rfl!) ?_)), upd_eq⟩ ?step ?done (by kernel_rfl!))
  case step =>
    rintro k d σ1 hd ⟨g1, g2, g3, g4⟩
    obtain ⟨hk, rfl⟩ := rng_at hd
    rw [show ((0 : Int) + (k : Int)) = (k : Int) from Int.zero_add _]
    have okO := okk k hk
    have g4' : σ1 (Str.ofString "above") = some (.own (natL ((allP size (orders.getD k []) 0).foldl (addAt (2 ^ k)) (abK orders size k)))) := g4
    refine ⟨_, Asg.name (by (first | (refine Wr.loc ?_ ?_ ?_ <;> kernel_rfl!) | (refine Wr.cell ?_ ?_ ?_ <;> kernel_rfl!))), ?_⟩
    refine Ex.cons (Ex1.loop (items := rng 0 size) (fun i σ => σ (Str.ofString "orders") = some (.imm (ordD orders)) ∧ σ (Str.ofString "wins") = some (.imm (.lst (boolL wins))) ∧ σ (Str.ofString "size") = some (.imm (.int (size : Int))) ∧ σ (Str.ofString "k") = some (.imm (.int (k : Int))) ∧ σ (Str.ofString "above") = some (.own (natL ((allP size (orders.getD k []) i).foldl (addAt (2 ^ k)) (abK orders size k))))) (Src.range1 S' (b_range S' (by (refine EnvG.mk' ?_ ?_ ?_ <;> kernel_rfl!)) (by kernel_rfl!)) (Ev.name (by (repeat' (with_reducible first | exact upd_eq | assumption | refine upd_ne (by kernel_rfl!) ?_)))) (i40 s33) (by kernel_rfl!)) ⟨by (repeat' (with_reducible first | exact upd_eq | assumption | refine upd_ne (by kernel_rfl!) ?_)), by (repeat' (with_reducible first | exact upd_eq | assumption | refine upd_ne (by kernel_rfl!) ?_)), by (repeat' (with_reducible first | exact upd_eq | assumption | refine upd_ne (by kernel_rfl!) ?_)), by (repeat' (with_reducible first | exact upd_eq | assumption | refine upd_ne (by kernel_rfl!) ?_)), by (repeat' (with_reducible first | exact upd_eq | assumption | refine upd_ne (by kernel_rfl!) ?_))⟩ ?step2 ?done2 (by kernel_rfl!))
    case done2 =>
      rintro σ2 ⟨f1, f2, f3, f4, f5⟩
      rw [List.length_map, List.length_range] at f5
      exact seqR_next (Ex.nil (loopR_next ⟨f1, f2, f3, f5⟩))
    case step2 =>
      rintro i d σ2 hd ⟨f1, f2, f3, f4, f5⟩
      obtain ⟨hi, rfl⟩ := rng_at hd
      rw [show ((0 : Int) + (i : Int)) = (i : Int) from Int.zero_add _]
      have f5' : σ2 (Str.ofString "above") = some (.own (natL ((((orders.getD k []).drop (i + 1)).take 0).map (fun y => (orders.getD k []).getD i 0 * size + y) |>.foldl (addAt (2 ^ k)) ((allP size (orders.getD k []) i).foldl (addAt (2 ^ k)) (abK orders size k))))) := f5
      refine ⟨_, Asg.name (by (first | (refine Wr.loc ?_ ?_ ?_ <;> kernel_rfl!) | (refine Wr.cell ?_ ?_ ?_ <;> kernel_rfl!))), ?_⟩
      refine Ex.cons (Ex1.loop (items := natL ((orders.getD k []).drop (i + 1))) (fun j σ => σ (Str.ofString "orders") = some (.imm (ordD orders)) ∧ σ (Str.ofString "wins") = some (.imm (.lst (boolL wins))) ∧ σ (Str.ofString "size") = some (.imm (.int (size : Int))) ∧ σ (Str.ofString "k") = some (.imm (.int (k : Int))) ∧ σ (Str.ofString "i") = some (.imm (.int (i : Int))) ∧ σ (Str.ofString "above") = some (.own (natL ((((orders.getD k []).drop (i + 1)).take j).map (fun y => (orders.getD k []).getD i 0 * size + y) |>.foldl (addAt (2 ^ k)) ((allP size (orders.getD k []) i).foldl (addAt (2 ^ k)) (abK orders size k)))))) (Src.list S' ?src) ⟨by (repeat' (with_reducible first | exact upd_eq | assumption | refine upd_ne (by kernel_rfl!) ?_)), by (repeat' (with_reducible first | exact upd_eq | assumption | refine upd_ne (by kernel_rfl!) ?_)), by (repeat' (with_reducible first | exact upd_eq | assumption | refine upd_ne (by kernel_rfl!) ?_)), by (repeat' (with_reducible first | exact upd_eq | assumption | refine upd_ne (by kernel_rfl!) ?_)), by (repeat' (with_reducible first | exact upd_eq | assumption | refine upd_ne (by kernel_rfl!) ?_)), by (repeat' (with_reducible first | exact upd_eq | assumption | refine upd_ne (by kernel_rfl!) ?_))⟩ ?step3 ?done3 (by kernel_rfl!))
      case src =>
        refine Ev.of_eq (Ev.slice (ds := natL (orders.getD k [])) (a := some ((i + 1 : Nat) : Int)) (b := none) (EvL.of (hit (by (repeat' (with_reducible first | exact upd_eq | assumption | refine upd_ne (by kernel_rfl!) ?_))) hk (Ev.name (by (repeat' (with_reducible first | exact upd_eq | assumption | refine upd_ne (by kernel_rfl!) ?_)))) (by kernel_rfl!))) (EvP.some (Ev.of_eq (Ev.bin (Ev.name (by (repeat' (with_reducible first | exact upd_eq | assumption | refine upd_ne (by kernel_rfl!) ?_)))) Ev.int Bin.add) (by push_cast; rfl))) EvP.none ?_) ?_
        · rw [List.length_map, okO.len]; exact Nat.le_trans hs (by decide)
        · rw [slice_from]
          show D.lst (List.drop (i + 1) (List.map _ _)) = D.lst (List.map _ (List.drop _ _))
          rw [List.map_drop]
      case done3 =>
        rintro σ3 ⟨e1, e2, e3, e4, e5, e6⟩
        rw [List.length_map, List.take_of_length_le (Nat.le_refl _)] at e6
        refine seqR_next (Ex.nil (loopR_next ⟨e1, e2, e3, e4, ?_⟩))
        rw [allP, List.foldl_append]; exact e6
      case step3 =>
        rintro j d σ3 hd ⟨e1, e2, e3, e4, e5, e6⟩
        have hj : j < ((orders.getD k []).drop (i + 1)).length := by
          rcases Nat.lt_or_ge j ((orders.getD k []).drop (i + 1)).length with h | h
          · exact h
          · rw [List.getElem?_eq_none (by rw [List.length_map]; exact h)] at hd; cases hd
        rw [natL_get hj] at hd
        cases hd
        generalize hy : ((orders.getD k []).drop (i + 1)).getD j 0 = y
        have hym : y < size := okO.lt _ (List.mem_of_mem_drop (hy ▸ getD_mem' hj))
        have hxm : (orders.getD k []).getD i 0 < size := okO.lt _ (getD_mem' (by rw [okO.len]; exact hi))
        have htk : ((orders.getD k []).drop (i + 1)).take (j + 1) = ((orders.getD k []).drop (i + 1)).take j ++ [y] := by
          rw [take_getD hj, hy]
        generalize hab : ((((orders.getD k []).drop (i + 1)).take j).map (fun y => (orders.getD k []).getD i 0 * size + y) |>.foldl (addAt (2 ^ k)) ((allP size (orders.getD k []) i).foldl (addAt (2 ^ k)) (abK orders size k))) = ab at e6
        have hal : ab.length = size * size := by rw [← hab, fold_len, fold_len, abK_len]
        have hti := idx_lt hxm hym
        refine ⟨_, Asg.name (by (first | (refine Wr.loc ?_ ?_ ?_ <;> kernel_rfl!) | (refine Wr.cell ?_ ?_ ?_ <;> kernel_rfl!))), ?_⟩
        refine Ex.cons (Ex1.augItem (ds := natL ab) (k := ((orders.getD k []).getD i 0 : Int) * (size : Int) + (y : Int)) (a := ((ab.getD ((orders.getD k []).getD i 0 * size + y) 0 : Nat) : Int)) (b := 2 ^ (k : Int).toNat) (by (repeat' (with_reducible first | exact upd_eq | assumption | refine upd_ne (by kernel_rfl!) ?_))) (Ev.bin (Ev.bin (Ev.item (EvL.of (hit (by (repeat' (with_reducible first | exact upd_eq | assumption | refine upd_ne (by kernel_rfl!) ?_))) hk (Ev.name (by (repeat' (with_reducible first | exact upd_eq | assumption | refine upd_ne (by kernel_rfl!) ?_)))) (by kernel_rfl!))) (Ev.name (by (repeat' (with_reducible first | exact upd_eq | assumption | refine upd_ne (by kernel_rfl!) ?_)))) (Int.natCast_nonneg _) (i63 (Nat.le_trans (Nat.le_of_lt hi) s33)) (by rw [Int.toNat_natCast]; exact natL_get (by rw [okO.len]; exact hi)) (by kernel_rfl!)) (Ev.name (by (repeat' (with_reducible first | exact upd_eq | assumption | refine upd_ne (by kernel_rfl!) ?_)))) (Bin.mul (IntMulOk.of_right (bits_nat b32)))) (Ev.name (by (repeat' (with_reducible first | exact upd_eq | assumption | refine upd_ne (by kernel_rfl!) ?_)))) Bin.add) (Ev.bin Ev.int (Ev.name (by (repeat' (with_reducible first | exact upd_eq | assumption | refine upd_ne (by kernel_rfl!) ?_)))) (Bin.pow (Int.natCast_nonneg _) (pow2_ok (i20 (Nat.le_trans (Nat.le_of_lt hk) h33))))) ?_ ?_ ?_ Inp.add (seqR_next (Ex.nil (loopR_next ⟨by (repeat' (with_reducible first | exact upd_eq | assumption | refine upd_ne (by kernel_rfl!) ?_)), by (repeat' (with_reducible first | exact upd_eq | assumption | refine upd_ne (by kernel_rfl!) ?_)), by (repeat' (with_reducible first | exact upd_eq | assumption | refine upd_ne (by kernel_rfl!) ?_)), by (repeat' (with_reducible first | exact upd_eq | assumption | refine upd_ne (by kernel_rfl!) ?_)), by (repeat' (with_reducible first | exact upd_eq | assumption | refine upd_ne (by kernel_rfl!) ?_)), ?_⟩))) (by kernel_rfl!))
        · rw [← Int.natCast_mul, ← Int.natCast_add]; exact Int.natCast_nonneg _
        · rw [← Int.natCast_mul, ← Int.natCast_add, Int.toNat_natCast]; exact natL_get (by rw [hal]; exact hti)
        · rw [List.length_map, hal]; exact Nat.le_trans hss (by decide)
        · rw [htk, List.map_append, List.foldl_append, hab, ← Int.natCast_mul, ← Int.natCast_add, Int.toNat_natCast, Int.toNat_natCast, pow_cast, ← Int.natCast_add, natL_set]
          exact upd_eq
  case done =>
    rintro σ' ⟨g1, g2, g3, g4⟩
    rw [List.length_map, List.length_range] at g4
    have hget : ∀ x y, x < size → y < size → (abK orders size orders.length).getD (x * size + y) 0 < 2 ^ orders.length := fun x y hx hy => by
      rw [abK_get hx hy _ (Nat.le_refl _) ok]; exact maskOf_lt _ _
    have hlen := abK_len orders size orders.length
    refine seqR_next (Ex.freeze (Str.ofString "above") g4 h0 ?_)
    refine Ex.cons (Ex1.ret (Ev.of_eq (Ev.comp S' (l := List.range size) (gt := fun i : Nat => .int (0 + i)) (fr := [Str.ofString "above", Str.ofString "size", Str.ofString "wins"]) (cl := [(Str.ofString "wins", Γ'.L + 1), (Str.ofString "size", Γ'.L + 1 + 1), (Str.ofString "above", Γ'.L + 1 + 1 + 1)]) (fun _ => true) (fun y : Nat => .int (beatN orders wins size y : Nat)) (Src.range1 S' (b_range S' (by (refine EnvG.mk' ?_ ?_ ?_ <;> kernel_rfl!)) (by kernel_rfl!)) (Ev.name (by (repeat' (with_reducible first | exact upd_eq | assumption | refine upd_ne (by kernel_rfl!) ?_)))) (i40 s33) (by kernel_rfl!)) ?cok (fun a _ C => EvIf.nil) (fun y hy _ C => ?elt) ?sz (by kernel_rfl!)) ?eqd) (seqR_ret rfl))
    case cok =>
      refine ⟨by kernel_rfl!, by kernel_rfl!, by decide, fun C => .inr ⟨by kernel_rfl!, by kernel_rfl!, by kernel_rfl!⟩, by kernel_rfl!, fun C y hy => ?_⟩
      rcases List.mem_cons.mp hy with rfl | hy
      · exact ⟨Γ'.L + 1 + 1 + 1, by kernel_rfl!, by kernel_rfl!, .inl (by kernel_rfl!), by kernel_rfl!, by kernel_rfl!⟩
      · rcases List.mem_cons.mp hy with rfl | hy
        · exact ⟨Γ'.L + 1 + 1, by kernel_rfl!, by kernel_rfl!, .inl (by kernel_rfl!), by kernel_rfl!, by kernel_rfl!⟩
        · rw [List.mem_singleton.mp hy]
          exact ⟨Γ'.L + 1, by kernel_rfl!, by kernel_rfl!, .inl (by kernel_rfl!), by kernel_rfl!, by kernel_rfl!⟩
    case sz => rw [List.length_range]; exact Nat.le_trans hs (by decide)
    case eqd => rw [pv_filter_true]; simp [natL, beatenF, Function.comp_def]
    case elt =>
      have hys : y < size := List.mem_range.mp hy
      have hsub : (List.range size).filter (fun x => wins.getD ((abK orders size orders.length).getD (x * size + y) 0) false) = (List.range size).filter (fun x => wins.getD ((abK orders size orders.length).getD (x * size + y) 0) false) := rfl
      have hfl : ((List.range size).filter (fun x => wins.getD ((abK orders size orders.length).getD (x * size + y) 0) false)).length ≤ size := by
        have := List.length_filter_le (fun x => wins.getD ((abK orders size orders.length).getD (x * size + y) 0) false) (List.range size)
        rw [List.length_range] at this; exact this
      refine Ev.of_eq (Ev.callB (b_sum S' (by (refine EnvG.mk' ?_ ?_ ?_ <;> kernel_rfl!)) (by kernel_rfl!)) (ds := [.lst (intL (((List.range size).filter fun x => wins.getD ((abK orders size orders.length).getD (x * size + y) 0) false).map fun x => ((2 ^ x : Nat) : Int)))]) (EvS.cons (Ev.of_eq (Ev.comp S' (l := List.range size) (gt := fun i : Nat => .int (0 + i)) (fr := [Str.ofString "above", Str.ofString "size", Str.ofString "wins", Str.ofString "y"]) (cl := [(Str.ofString "y", C + 1), (Str.ofString "wins", Γ'.L + 1), (Str.ofString "size", Γ'.L + 1 + 1), (Str.ofString "above", Γ'.L + 1 + 1 + 1)]) (fun x : Nat => wins.getD ((abK orders size orders.length).getD (x * size + y) 0) false) (fun x : Nat => .int (2 ^ ((0 : Int) + (x : Int)).toNat)) (Src.range1 S' (b_range S' (by (refine EnvG.mk' ?_ ?_ ?_ <;> kernel_rfl!)) (by kernel_rfl!)) (Ev.name (compS_y (by kernel_rfl!) (by kernel_rfl!) (by (repeat' (with_reducible first | exact upd_eq | assumption | refine upd_ne (by kernel_rfl!) ?_))))) (i40 s33) (by kernel_rfl!)) ?cok2 (fun x hx C2 => EvIf.one ?tst) (fun x hx _ C2 => ?pw) ?sz2 (by kernel_rfl!)) ?eqd2) EvS.nil (by kernel_rfl!)) (CallR.sum S' ?fit) (by kernel_rfl!)) ?eqs
      case cok2 =>
        refine ⟨by kernel_rfl!, by kernel_rfl!, by decide, fun C => .inl ⟨by kernel_rfl!, by kernel_rfl!⟩, by kernel_rfl!, fun C2 z hz => ?_⟩
        rcases List.mem_cons.mp hz with rfl | hz
        · exact ⟨Γ'.L + 1 + 1 + 1, by kernel_rfl!, by kernel_rfl!, (by first | exact .inl (by kernel_rfl!) | exact .inr (by kernel_rfl!)), by kernel_rfl!, by kernel_rfl!⟩
        · rcases List.mem_cons.mp hz with rfl | hz
          · exact ⟨Γ'.L + 1 + 1, by kernel_rfl!, by kernel_rfl!, (by first | exact .inl (by kernel_rfl!) | exact .inr (by kernel_rfl!)), by kernel_rfl!, by kernel_rfl!⟩
          · rcases List.mem_cons.mp hz with rfl | hz
            · exact ⟨Γ'.L + 1, by kernel_rfl!, by kernel_rfl!, (by first | exact .inl (by kernel_rfl!) | exact .inr (by kernel_rfl!)), by kernel_rfl!, by kernel_rfl!⟩
            · rw [List.mem_singleton.mp hz]
              exact ⟨C + 1, by kernel_rfl!, by kernel_rfl!, .inl (by kernel_rfl!), by kernel_rfl!, by kernel_rfl!⟩
      case sz2 => rw [List.length_range]; exact Nat.le_trans hs (by decide)
      case tst =>
        have hxs : x < size := List.mem_range.mp hx
        have hti := idx_lt hxs hys
        have hb := hget x y hxs hys
        refine EvT.of (d := .bool (wins.getD ((abK orders size orders.length).getD (x * size + y) 0) false)) (Ev.item (ds := boolL wins) (k := (((abK orders size orders.length).getD (x * size + y) 0 : Nat) : Int)) (EvL.of (Ev.name (compS_y (by kernel_rfl!) (by kernel_rfl!) (compS_y (by kernel_rfl!) (by kernel_rfl!) (by (repeat' (with_reducible first | exact upd_eq | assumption | refine upd_ne (by kernel_rfl!) ?_))))))) (Ev.item (ds := natL (abK orders size orders.length)) (k := ((0 : Int) + (x : Int)) * (size : Int) + ((0 : Int) + (y : Int))) (EvL.of (Ev.name (compS_y (by kernel_rfl!) (by kernel_rfl!) (compS_y (by kernel_rfl!) (by kernel_rfl!) (by (repeat' (with_reducible first | exact upd_eq | assumption | refine upd_ne (by kernel_rfl!) ?_))))))) (Ev.bin (Ev.bin (Ev.name compS_x) (Ev.name (compS_y (by kernel_rfl!) (by kernel_rfl!) (compS_y (by kernel_rfl!) (by kernel_rfl!) (by (repeat' (with_reducible first | exact upd_eq | assumption | refine upd_ne (by kernel_rfl!) ?_)))))) (Bin.mul (IntMulOk.of_right (bits_nat b32)))) (Ev.name (compS_y (by kernel_rfl!) (by kernel_rfl!) compS_x)) Bin.add) ?_ ?_ ?_ (by kernel_rfl!)) (Int.natCast_nonneg _) ?_ ?_ (by kernel_rfl!)) Tru.bool (by kernel_rfl!)
        · rw [show ((0 : Int) + (x : Int)) * (size : Int) + ((0 : Int) + (y : Int)) = ((x * size + y : Nat) : Int) by push_cast; simp]; exact Int.natCast_nonneg _
        · rw [show ((0 : Int) + (x : Int)) * (size : Int) + ((0 : Int) + (y : Int)) = ((x * size + y : Nat) : Int) by push_cast; simp]; exact i63 (Nat.le_trans (Nat.le_of_lt hti) (Nat.le_trans hss (by decide)))
        · rw [show ((0 : Int) + (x : Int)) * (size : Int) + ((0 : Int) + (y : Int)) = ((x * size + y : Nat) : Int) by push_cast; simp, Int.toNat_natCast]; exact natL_get (by rw [hlen]; exact hti)
        · exact i63 (Nat.le_trans (Nat.le_of_lt hb) (Nat.le_trans (Nat.pow_le_pow_right (by decide) hn) (by decide)))
        · rw [Int.toNat_natCast]; exact boolL_get (by rw [hw]; exact hb)
      case pw =>
        have hxs : x < size := List.mem_range.mp hx
        exact Ev.bin Ev.int (Ev.name compS_x) (Bin.pow (by rw [Int.zero_add]; exact Int.natCast_nonneg _) (pow2_ok (by rw [Int.zero_add]; exact i20 (Nat.le_trans (Nat.le_of_lt hxs) s33))))
      case eqd2 =>
        rw [intL, List.map_map]
        congr 1
        apply List.map_congr_left
        intro x _
        show D.int _ = D.int _
        congr 1
        rw [show ((0 : Int) + (x : Int)).toNat = x by rw [Int.zero_add]; exact Int.toNat_natCast x, pow_cast]
      case fit =>
        refine sum_fit (B := 32) (fun a ha => ?_) (by decide) (by decide) (by rw [List.length_map]; exact Nat.le_trans hfl (Nat.le_trans hs (by decide)))
        obtain ⟨x, hx, rfl⟩ := List.mem_map.mp ha
        have hxs : x < size := List.mem_range.mp (List.mem_filter.mp hx).1
        have h32 : 2 ^ x ≤ 32 := Nat.pow_le_pow_right (by decide : 0 < 2) (Nat.le_trans (Nat.le_of_lt hxs) hs)
        exact ⟨Int.natCast_nonneg _, Int.ofNat_le.mpr h32⟩
      case eqs =>
        show D.int _ = D.int _
        congr 1
        unfold beatN
        generalize (List.range size).filter _ = l
        induction l with
        | nil => rfl
        | cons a r ih => rw [List.map_cons, List.sum_cons, ih, List.map_cons, List.sum_cons]; push_cast; rfl

/-! part W11 -/
theorem n_chr (P : Params) : nsIn (hd.heap_39 P) mainGlobals (Str.ofString "chr") = some none := by k_is
theorem b_chr {Γ : G} {env : Env} {k : Nat} (S : Site Γ k) (eg : EnvG env) (hx : env.kindOf (Str.ofString "chr") = some .globalImplicit) : Glb Γ env (Str.ofString "chr") (.builtin "chr") := Glb.builtin S eg n_chr (by boot_fast) (by decide) hx (by decide)
theorem str_app (a b : Array Nat) : (⟨a⟩ : Str) ++ ⟨b⟩ = ⟨a ++ b⟩ := rfl
theorem c257 : Str.ofString "257 \"" = ⟨#[50, 53, 55, 32, 34]⟩ := by decide +kernel
theorem cvoter : Str.ofString "\" is one voter" = ⟨#[34, 32, 105, 115, 32, 111, 110, 101, 32, 118, 111, 116, 101, 114]⟩ := by decide +kernel
theorem str_len (a : Array Nat) : (⟨a⟩ : Str).length = a.size := rfl
theorem Ev.addReplace {Γ : G} {env : Env} {ρ : Store} {x : Str} {xx a y z : Str} {k1 k2 k3 : Nat} {p1 p2 p3 px q0 pos p : Pos} (hx : ρ x = some (.imm (.str xx))) (hyz : (y == z) = false) (hxl : xx.length ≤ 1048576) (hz : z.length ≤ 14) (hl : a.length + (Txt.replace xx y z).length ≤ sizeLine) (hm : (q0.endLine == pos.line) = true) :
    Ev Γ env ρ (.BinOp (.Constant (.str a) k1 p1) .Add (.Call (.Attribute (.Name x px) (Str.ofString "replace") q0) [.Constant (.str y) k2 p2, .Constant (.str z) k3 p3] [] pos) p) (.str (a ++ Txt.replace xx y z)) := by
  constructor; intro O s ok Q hQ
  refine wpAny_BinOp (Calls.Constant_str ?_)
  obtain ⟨pl, hm⟩ := meth_plain (env := env) (o := .Name x px) (name := Str.ofString "replace") (apos := q0) (pos := pos) (args := [.Constant (.str y) k2 p2, .Constant (.str z) k3 p3]) rfl rfl rfl hm
  refine MethodCall_ (pl := pl) ?_ hm
  obtain ⟨v, rv, rep⟩ := ok.var x _ hx
  obtain ⟨tx, rfl⟩ := rep.inv
  refine rv.1 _ (StaysIn.refl _) px _ _ _ rfl ?_
  refine getMethod_builtin (typeIs_str _ _ _) PySem.F.plainAttrs_str PySem.F.slot_str_replace PySem.F.type_str_replace (fun b hb => by cases hb) ?_
  refine callWith_method1 ?_ (star_plain rfl) rfl
  refine spliced_more (Calls.Constant_str ?_) (star_plain rfl)
  refine spliced_more (Calls.Constant_str ?_) (star_plain rfl)
  refine spliced_none ?_
  refine SC.replaceW (Nat.succ_ne_zero _) (Nat.succ_ne_zero _) (Nat.ne_of_lt (Nat.lt_succ_self _)) hyz hxl hz fun t' k' => ?_
  exact add_str (fun _ _ => hQ _ s.heap _ (StaysIn.refl _) (.str _ _)) hl
noncomputable def signsF (n : Nat) : List Nat := if 63 < n then [64 + n / 64, n % 64] else [n]
noncomputable def sentL (n : Nat) : List Nat := [50, 53, 55, 32, 34] ++ StrLaws.dbl 34 (signsF n) ++ [34, 32, 105, 115, 32, 111, 110, 101, 32, 118, 111, 116, 101, 114]
theorem dbl_len (c : Nat) : ∀ l, (StrLaws.dbl c l).length ≤ 2 * l.length
  | [] => Nat.le_refl _
  | a :: l => by
    unfold StrLaws.dbl
    have := dbl_len c l
    split <;> simp only [List.length_cons] <;> omega
theorem sent_arr (n : Nat) : #[50, 53, 55, 32, 34] ++ (StrLaws.dbl 34 (signsF n)).toArray ++ #[34, 32, 105, 115, 32, 111, 110, 101, 32, 118, 111, 116, 101, 114] = (sentL n).toArray := by
  unfold sentL
  generalize StrLaws.dbl 34 (signsF n) = l
  simp
theorem signs_len (n : Nat) : (signsF n).length ≤ 2 := by unfold signsF; split <;> simp
set_option maxHeartbeats 400000 in
theorem sent_fn {Γ : G} {k : Nat} (S : Site Γ (k + 1)) (n : Nat) (hn : n < 768) : CallR Γ (.ref 100) [.int (n : Int)] (.str ⟨(sentL n).toArray⟩) := by
  k_dflt (refine' Fn.enter (ps := [Str.ofString "number"]) ?ho ?hcd ?hb ?hl ?hk ?c1 ?c2 ?c3 S ?body)
  case ho => intro P; k_is
  case hcd => intro P; k_is
  case hb => exact vs1 rfl fun _ => rfl
  case hl => rfl
  case hk => exact ⟨⟨by first | exact .inl ⟨by kernel_rfl!, fun n => by kernel_rfl!⟩ | exact .inr ⟨by kernel_rfl!, fun n => by kernel_rfl!⟩, by decide⟩, trivial⟩
  case c1 => rfl
  case c2 => rfl
  case c3 => rfl
  intro Γ' S' h0
  have p1 : parS [Str.ofString "number"] [(.int (n : Int))] (Str.ofString "number") = some (.imm (.int (n : Int))) := by kernel_rfl!
  generalize parS [Str.ofString "number"] [(.int (n : Int))] = σ at p1
  have sl := signs_len n
  refine Ex.cons (Ex1.assign (d := .str ⟨(signsF n).toArray⟩) (Ev.ite (c := decide ((63 : Int) < n)) (EvT.cmp (Ev.name (by (repeat' (with_reducible first | exact upd_eq | assumption | refine upd_ne (by kernel_rfl!) ?_)))) Ev.int Cmp.gt (by kernel_rfl!)) (fun q => ?two) fun q => ?one) (by (first | (refine Wr.loc ?_ ?_ ?_ <;> kernel_rfl!) | (refine Wr.cell ?_ ?_ ?_ <;> kernel_rfl!))) (seqR_next ?_) (by kernel_rfl!))
  case two =>
    have h63 : 63 < n := by have := of_decide_eq_true q; omega
    have e1 : (64 + (n : Int).fdiv 64).toNat = 64 + n / 64 := by rw [Int.fdiv_eq_ediv_of_nonneg _ (by decide)]; omega
    have e2 : ((n : Int).fmod 64).toNat = n % 64 := by rw [Int.fmod_eq_emod_of_nonneg _ (by decide)]; omega
    have b1 : (n : Int).fdiv 64 = n / 64 := Int.fdiv_eq_ediv_of_nonneg _ (by decide)
    have b2 : (n : Int).fmod 64 = n % 64 := Int.fmod_eq_emod_of_nonneg _ (by decide)
    refine Ev.of_eq (Ev.bin (d₁ := .str ⟨#[(64 + (n : Int).fdiv 64).toNat]⟩) (d₂ := .str ⟨#[((n : Int).fmod 64).toNat]⟩) (Ev.callB (b_chr S' (by (refine EnvG.mk' ?_ ?_ ?_ <;> kernel_rfl!)) (by kernel_rfl!)) (EvS.cons (by (repeat' (with_reducible first | exact Ev.int | exact Ev.flt | exact Ev.str | exact Ev.name (by (repeat' (with_reducible first | exact upd_eq | assumption | refine upd_ne (by kernel_rfl!) ?_))) | apply Ev.bin | exact Bin.add | exact Bin.addF | exact Bin.subF | exact Bin.mulF | exact Bin.sub | exact Bin.mod (by k_dflt (first | with_reducible assumption | decide | omega)) | exact Bin.fdiv (by k_dflt (first | with_reducible assumption | decide | omega)) (fdiv_small (by k_dflt (first | with_reducible assumption | decide | omega))) | exact Bin.mul (IntMulOk.of_left (by k_dflt first | with_reducible assumption | decide)) | exact Bin.mul (IntMulOk.of_right (by k_dflt first | with_reducible assumption | decide)) | apply Ev.cmp (hm := by kernel_rfl!) | apply EvT.cmp (hm := by kernel_rfl!) | exact Cmp.lt | exact Cmp.gt | exact Cmp.le | exact Cmp.ge | exact Cmp.eq | exact Cmp.ne | exact EvS.nil | apply EvS.cons (hs := by kernel_rfl!) | refine Ev.tup ?_ (by k_dflt exact Nat.le_of_ble_eq_true rfl) | apply Ev.callB (b_abs (by assumption) (by (refine EnvG.mk' ?_ ?_ ?_ <;> kernel_rfl!)) (by kernel_rfl!)) (h1 := by kernel_rfl!) | apply Ev.callB (b_max (by assumption) (by (refine EnvG.mk' ?_ ?_ ?_ <;> kernel_rfl!)) (by kernel_rfl!)) (h1 := by kernel_rfl!) | apply Ev.callB (b_min (by assumption) (by (refine EnvG.mk' ?_ ?_ ?_ <;> kernel_rfl!)) (by kernel_rfl!)) (h1 := by kernel_rfl!) | exact CallR.abs | exact CallR.max2 (by assumption) | exact CallR.min2 (by assumption)))) EvS.nil (by kernel_rfl!)) (CallR.chr ?_) (by kernel_rfl!)) (Ev.callB (b_chr S' (by (refine EnvG.mk' ?_ ?_ ?_ <;> kernel_rfl!)) (by kernel_rfl!)) (EvS.cons (by (repeat' (with_reducible first | exact Ev.int | exact Ev.flt | exact Ev.str | exact Ev.name (by (repeat' (with_reducible first | exact upd_eq | assumption | refine upd_ne (by kernel_rfl!) ?_))) | apply Ev.bin | exact Bin.add | exact Bin.addF | exact Bin.subF | exact Bin.mulF | exact Bin.sub | exact Bin.mod (by k_dflt (first | with_reducible assumption | decide | omega)) | exact Bin.fdiv (by k_dflt (first | with_reducible assumption | decide | omega)) (fdiv_small (by k_dflt (first | with_reducible assumption | decide | omega))) | exact Bin.mul (IntMulOk.of_left (by k_dflt first | with_reducible assumption | decide)) | exact Bin.mul (IntMulOk.of_right (by k_dflt first | with_reducible assumption | decide)) | apply Ev.cmp (hm := by kernel_rfl!) | apply EvT.cmp (hm := by kernel_rfl!) | exact Cmp.lt | exact Cmp.gt | exact Cmp.le | exact Cmp.ge | exact Cmp.eq | exact Cmp.ne | exact EvS.nil | apply EvS.cons (hs := by kernel_rfl!) | refine Ev.tup ?_ (by k_dflt exact Nat.le_of_ble_eq_true rfl) | apply Ev.callB (b_abs (by assumption) (by (refine EnvG.mk' ?_ ?_ ?_ <;> kernel_rfl!)) (by kernel_rfl!)) (h1 := by kernel_rfl!) | apply Ev.callB (b_max (by assumption) (by (refine EnvG.mk' ?_ ?_ ?_ <;> kernel_rfl!)) (by kernel_rfl!)) (h1 := by kernel_rfl!) | apply Ev.callB (b_min (by assumption) (by (refine EnvG.mk' ?_ ?_ ?_ <;> kernel_rfl!)) (by kernel_rfl!)) (h1 := by kernel_rfl!) | exact CallR.abs | exact CallR.max2 (by assumption) | exact CallR.min2 (by assumption)))) EvS.nil (by kernel_rfl!)) (CallR.chr ?_) (by kernel_rfl!)) (Bin.addS (by show 1 + 1 ≤ sizeLine; decide))) ?_
    · rw [b1, decide_eq_false (by omega), decide_eq_false (by omega)]; rfl
    · rw [b2, decide_eq_false (by omega), decide_eq_false (by omega)]; rfl
    · rw [e1, e2, show signsF n = [64 + n / 64, n % 64] from if_pos h63]; rfl
  case one =>
    have h63 : ¬ 63 < n := by have := of_decide_eq_false q; omega
    refine Ev.of_eq (Ev.callB (b_chr S' (by (refine EnvG.mk' ?_ ?_ ?_ <;> kernel_rfl!)) (by kernel_rfl!)) (EvS.cons (by (repeat' (with_reducible first | exact Ev.int | exact Ev.flt | exact Ev.str | exact Ev.name (by (repeat' (with_reducible first | exact upd_eq | assumption | refine upd_ne (by kernel_rfl!) ?_))) | apply Ev.bin | exact Bin.add | exact Bin.addF | exact Bin.subF | exact Bin.mulF | exact Bin.sub | exact Bin.mod (by k_dflt (first | with_reducible assumption | decide | omega)) | exact Bin.fdiv (by k_dflt (first | with_reducible assumption | decide | omega)) (fdiv_small (by k_dflt (first | with_reducible assumption | decide | omega))) | exact Bin.mul (IntMulOk.of_left (by k_dflt first | with_reducible assumption | decide)) | exact Bin.mul (IntMulOk.of_right (by k_dflt first | with_reducible assumption | decide)) | apply Ev.cmp (hm := by kernel_rfl!) | apply EvT.cmp (hm := by kernel_rfl!) | exact Cmp.lt | exact Cmp.gt | exact Cmp.le | exact Cmp.ge | exact Cmp.eq | exact Cmp.ne | exact EvS.nil | apply EvS.cons (hs := by kernel_rfl!) | refine Ev.tup ?_ (by k_dflt exact Nat.le_of_ble_eq_true rfl) | apply Ev.callB (b_abs (by assumption) (by (refine EnvG.mk' ?_ ?_ ?_ <;> kernel_rfl!)) (by kernel_rfl!)) (h1 := by kernel_rfl!) | apply Ev.callB (b_max (by assumption) (by (refine EnvG.mk' ?_ ?_ ?_ <;> kernel_rfl!)) (by kernel_rfl!)) (h1 := by kernel_rfl!) | apply Ev.callB (b_min (by assumption) (by (refine EnvG.mk' ?_ ?_ ?_ <;> kernel_rfl!)) (by kernel_rfl!)) (h1 := by kernel_rfl!) | exact CallR.abs | exact CallR.max2 (by assumption) | exact CallR.min2 (by assumption)))) EvS.nil (by kernel_rfl!)) (CallR.chr ?_) (by kernel_rfl!)) ?_
    · rw [decide_eq_false (by omega), decide_eq_false (by omega)]; rfl
    · rw [show signsF n = [n] from if_neg h63, Int.toNat_natCast]
  have er : Txt.replace ⟨(signsF n).toArray⟩ (Str.ofString "\"") (Str.ofString "\"\"") = ⟨(StrLaws.dbl 34 (signsF n)).toArray⟩ := by
    have := replace_dbl ⟨(signsF n).toArray⟩ (Str.ofString "\"") (Str.ofString "\"\"") 34 (by decide +kernel) (by decide +kernel)
    simpa using this
  have dl := dbl_len 34 (signsF n)
  have dz : (StrLaws.dbl 34 (signsF n)).toArray.size = (StrLaws.dbl 34 (signsF n)).length := List.size_toArray
  refine Ex.cons (Ex1.ret (Ev.of_eq (Ev.bin (Ev.addReplace upd_eq (by decide +kernel) ?h1 (by decide +kernel) ?h2 (by kernel_rfl!)) Ev.str (Bin.addS ?h3)) ?heq) (seqR_ret rfl))
  case h1 => show (signsF n).toArray.size ≤ _; rw [List.size_toArray]; omega
  case h2 =>
    rw [er, c257, str_len, str_len, dz]; exact Nat.le_trans (by show 5 + _ ≤ 100; omega) (by decide : 100 ≤ sizeLine)
  case h3 =>
    rw [er, c257, cvoter, str_app, str_len, str_len, Array.size_append, dz]; exact Nat.le_trans (by show 5 + _ + 14 ≤ 100; omega) (by decide : 100 ≤ sizeLine)
  case heq =>
    rw [er, c257, cvoter, str_app, str_app, sent_arr]

/-! part W12 -/
theorem cq : Str.ofString "\"" = ⟨#[34]⟩ := by decide +kernel
theorem cd257 : Str.ofString "257" = ⟨#[50, 53, 55]⟩ := by decide +kernel
theorem cbq : Str.ofString " \"" = ⟨#[32, 34]⟩ := by decide +kernel
theorem cnil : Str.ofString "" = ⟨#[]⟩ := by decide +kernel
theorem get_at {A B : List Nat} {j : Nat} : (A ++ B).toArray[A.length + j]? = B[j]? := by
  rw [List.getElem?_toArray, List.getElem?_append_right (by omega)]; congr 1; omega
theorem sliceT_eq {L : List Nat} {a b : Option Int} {i j : Nat} (h1 : kms_lo a L.length = i) (h2 : kms_hi b L.length = j) : sliceT ⟨L.toArray⟩ a b = ⟨((L.drop i).take (j - i)).toArray⟩ := by
  unfold sliceT
  have e : (⟨L.toArray⟩ : Str).cps.size = L.length := List.size_toArray
  rw [e, h1, h2]
theorem lo_nat {n i : Nat} (h : i ≤ n) : kms_lo (some (i : Int)) n = i := by
  unfold kms_lo; simp only; rw [if_neg (by omega), Int.toNat_natCast, Nat.min_eq_left h]
theorem hi_nat {n i : Nat} (h : i ≤ n) : kms_hi (some (i : Int)) n = i := by
  unfold kms_hi; simp only; rw [if_neg (by omega), Int.toNat_natCast, Nat.min_eq_left h]
theorem dbl_app (c : Nat) (a b : List Nat) : StrLaws.dbl c (a ++ b) = StrLaws.dbl c a ++ StrLaws.dbl c b := StrLaws.dbl_append c a b
theorem sizeStr (L : List Nat) : (⟨L.toArray⟩ : Str).length = L.length := List.size_toArray
theorem j63 {k : Nat} (h : k ≤ 1000) : (k : Int) < 2 ^ 63 := Int.lt_of_le_of_lt (Int.ofNat_le.mpr h) (by decide)
theorem len_tail (post : List Nat) : (34 :: 32 :: post : List Nat).length = 2 + post.length := (Nat.add_comm post.length 2 : post.length + 2 = 2 + post.length)
set_option maxHeartbeats 1000000 in
theorem parse257_fn {Γ : G} {k : Nat} (S : Site Γ (k + 1)) (body post : List Nat) (hb : body.length ≤ 100) (hp : post.length ≤ 100) : CallR Γ (.ref 86) [.str ⟨([50, 53, 55, 32, 34] ++ StrLaws.dbl 34 body ++ (34 :: 32 :: post)).toArray⟩] (.str ⟨body.toArray⟩) := by
  have hdl := dbl_len 34 body
  generalize hL : [50, 53, 55, 32, 34] ++ StrLaws.dbl 34 body ++ (34 :: 32 :: post) = L
  have hlen : L.length = 5 + (StrLaws.dbl 34 body).length + (2 + post.length) := by rw [← hL, List.length_append, List.length_append, len_tail]; rfl
  have hL1000 : L.length ≤ 1000 := by clear hL; omega
  have h5L : 5 ≤ L.length := by rw [hlen, Nat.add_assoc]; exact Nat.le_add_right 5 _
  have hsz : (⟨L.toArray⟩ : Str).length ≤ sizeLine := by rw [sizeStr]; exact Nat.le_trans hL1000 (by decide)
  have s1 : sliceT ⟨L.toArray⟩ none (some 3) = Str.ofString "257" := by
    have h3 : kms_hi (some 3) L.length = 3 := hi_nat (i := 3) (Nat.le_trans (by decide) h5L)
    rw [cd257, sliceT_eq (i := 0) (j := 3) rfl h3, ← hL]; rfl
  have s2 : sliceT ⟨L.toArray⟩ (some 3) (some 5) = Str.ofString " \"" := by
    have h3 : kms_lo (some 3) L.length = 3 := lo_nat (i := 3) (Nat.le_trans (by decide) h5L)
    have h5 : kms_hi (some 5) L.length = 5 := hi_nat (i := 5) h5L
    rw [cbq, sliceT_eq h3 h5, ← hL]; rfl
  k_dflt (refine' Fn.enter (ps := [Str.ofString "resp"]) ?ho ?hcd ?hb ?hl ?hk ?c1 ?c2 ?c3 S ?body)
  case ho => intro P; k_is
  case hcd => intro P; k_is
  case hb => exact vs1 rfl fun _ => rfl
  case hl => rfl
  case hk => exact ⟨⟨by first | exact .inl ⟨by kernel_rfl!, fun n => by kernel_rfl!⟩ | exact .inr ⟨by kernel_rfl!, fun n => by kernel_rfl!⟩, by decide⟩, trivial⟩
  case c1 => rfl
  case c2 => rfl
  case c3 => rfl
  intro Γ' S' h0
  have p1 : parS [Str.ofString "resp"] [(.str ⟨L.toArray⟩)] (Str.ofString "resp") = some (.imm (.str ⟨L.toArray⟩)) := by kernel_rfl!
  generalize parS [Str.ofString "resp"] [(.str ⟨L.toArray⟩)] = σ at p1
  refine Ex.cons (Ex1.ite (b := false) (EvT.of_eq (EvT.cmp (Ev.sliceS (a := none) (b := some 3) (Ev.name (by (repeat' (with_reducible first | exact upd_eq | assumption | refine upd_ne (by kernel_rfl!) ?_)))) EvP.none (EvP.some Ev.int) hsz) Ev.str Cmp.neS (by kernel_rfl!)) (by rw [s1]; exact bne_self_eq_false _)) (fun q => by cases q) fun _ => Ex.nil (seqR_next ?_))
  refine Ex.cons (Ex1.ite (b := false) (EvT.of_eq (EvT.cmp (Ev.sliceS (a := some 3) (b := some 5) (Ev.name (by (repeat' (with_reducible first | exact upd_eq | assumption | refine upd_ne (by kernel_rfl!) ?_)))) (EvP.some Ev.int) (EvP.some Ev.int) hsz) Ev.str Cmp.neS (by kernel_rfl!)) (by rw [s2]; exact bne_self_eq_false _)) (fun q => by cases q) fun _ => Ex.nil (seqR_next ?_))
  refine Ex.cons (Ex1.assign (d := .str ⟨([] : List Nat).toArray⟩) (Ev.of_eq Ev.str (by rw [cnil])) (by (first | (refine Wr.loc ?_ ?_ ?_ <;> kernel_rfl!) | (refine Wr.cell ?_ ?_ ?_ <;> kernel_rfl!))) (seqR_next ?_) (by kernel_rfl!))
  refine Ex.cons (Ex1.assign (d := .int ((5 + (StrLaws.dbl 34 ([] : List Nat)).length : Nat) : Int)) (Ev.of_eq Ev.int rfl) (by (first | (refine Wr.loc ?_ ?_ ?_ <;> kernel_rfl!) | (refine Wr.cell ?_ ?_ ?_ <;> kernel_rfl!))) (seqR_next ?_) (by kernel_rfl!))
  refine Ex.cons (Ex1.assign (d := .int (L.length : Int)) (Ev.of_eq (Ev.callB (b_len S' (by (refine EnvG.mk' ?_ ?_ ?_ <;> kernel_rfl!)) (by kernel_rfl!)) (EvS.cons (Ev.name (by (repeat' (with_reducible first | exact upd_eq | assumption | refine upd_ne (by kernel_rfl!) ?_)))) EvS.nil (by kernel_rfl!)) (CallR.lenS (by rw [sizeStr]; exact Nat.lt_of_le_of_lt hL1000 (by decide))) (by kernel_rfl!)) (by rw [sizeStr])) (by (first | (refine Wr.loc ?_ ?_ ?_ <;> kernel_rfl!) | (refine Wr.cell ?_ ?_ ?_ <;> kernel_rfl!))) (seqR_next ?_) (by kernel_rfl!))
  refine Ex.cons (Ex1.while (fun m σ => ∃ done rest, body = done ++ rest ∧ m = rest.length ∧ σ (Str.ofString "resp") = some (.imm (.str ⟨L.toArray⟩)) ∧ σ (Str.ofString "n") = some (.imm (.int (L.length : Int))) ∧ σ (Str.ofString "dirname") = some (.imm (.str ⟨done.toArray⟩)) ∧ σ (Str.ofString "i") = some (.imm (.int ((5 + (StrLaws.dbl 34 done).length : Nat) : Int)))) body.length ⟨[], body, rfl, rfl, by (repeat' (with_reducible first | exact upd_eq | assumption | refine upd_ne (by kernel_rfl!) ?_)), by (repeat' (with_reducible first | exact upd_eq | assumption | refine upd_ne (by kernel_rfl!) ?_)), by (repeat' (with_reducible first | exact upd_eq | assumption | refine upd_ne (by kernel_rfl!) ?_)), by (repeat' (with_reducible first | exact upd_eq | assumption | refine upd_ne (by kernel_rfl!) ?_))⟩ ?turn)
  rintro m σ2 ⟨done, rest, hdr, hm, g1, g2, g3, g4⟩
  have hL2 : L = ([50, 53, 55, 32, 34] ++ StrLaws.dbl 34 done) ++ (StrLaws.dbl 34 rest ++ (34 :: 32 :: post)) := by rw [← hL, hdr, dbl_app]; simp
  have hA : ([50, 53, 55, 32, 34] ++ StrLaws.dbl 34 done : List Nat).length = 5 + (StrLaws.dbl 34 done).length := by rw [List.length_append]; rfl
  have hlen2 : L.length = 5 + (StrLaws.dbl 34 done).length + ((StrLaws.dbl 34 rest).length + (2 + post.length)) := by rw [hL2, List.length_append, hA, List.length_append, len_tail]
  have hget : ∀ j : Nat, L.toArray[5 + (StrLaws.dbl 34 done).length + j]? = (StrLaws.dbl 34 rest ++ (34 :: 32 :: post))[j]? := fun j => by rw [hL2, ← hA]; exact get_at
  generalize hP : 5 + (StrLaws.dbl 34 done).length = P at g4 hlen2 hget hA
  have hdz : done.length ≤ 100 := Nat.le_trans (by rw [hdr, List.length_append]; exact Nat.le_add_right _ _) hb
  have hPL : P + 1 < L.length := by
    rw [hlen2]
    exact Nat.add_lt_add_left (Nat.lt_of_lt_of_le (by decide : 1 < 2) (Nat.le_trans (Nat.le_add_right 2 _) (Nat.le_add_left _ _))) P
  have hP1 : P + 1 ≤ 1000 := Nat.le_trans (Nat.le_of_lt hPL) hL1000
  refine ⟨true, EvT.of_eq (EvT.cmp (Ev.name (by (repeat' (with_reducible first | exact upd_eq | assumption | refine upd_ne (by kernel_rfl!) ?_)))) (Ev.name (by (repeat' (with_reducible first | exact upd_eq | assumption | refine upd_ne (by kernel_rfl!) ?_)))) Cmp.lt (by kernel_rfl!)) (decide_eq_true (Int.ofNat_lt.mpr (Nat.lt_of_succ_lt hPL))), fun _ => ?go, fun q => by cases q⟩
  cases rest with
  | nil =>
    have e0 : L.toArray[P]? = some 34 := hget 0
    have e1 : L.toArray[P + 1]? = some 32 := hget 1
    refine Ex.cons (Ex1.assign (d := .str ⟨#[34]⟩) (Ev.itemS (Ev.name (by (repeat' (with_reducible first | exact upd_eq | assumption | refine upd_ne (by kernel_rfl!) ?_)))) (Ev.name (by (repeat' (with_reducible first | exact upd_eq | assumption | refine upd_ne (by kernel_rfl!) ?_)))) (Int.natCast_nonneg _) (j63 (Nat.le_of_succ_le hP1)) (by rw [Int.toNat_natCast]; exact e0) (by kernel_rfl!)) (by (first | (refine Wr.loc ?_ ?_ ?_ <;> kernel_rfl!) | (refine Wr.cell ?_ ?_ ?_ <;> kernel_rfl!))) (seqR_next ?_) (by kernel_rfl!))
    refine Ex.cons (Ex1.assign (d := .int ((P + 1 : Nat) : Int)) (Ev.of_eq (Ev.bin (Ev.name (by (repeat' (with_reducible first | exact upd_eq | assumption | refine upd_ne (by kernel_rfl!) ?_)))) Ev.int Bin.add) (by push_cast; rfl)) (by (first | (refine Wr.loc ?_ ?_ ?_ <;> kernel_rfl!) | (refine Wr.cell ?_ ?_ ?_ <;> kernel_rfl!))) (seqR_next ?_) (by kernel_rfl!))
    refine Ex.cons (Ex1.ite (b := true) (EvT.of_eq (EvT.cmp (Ev.name (by (repeat' (with_reducible first | exact upd_eq | assumption | refine upd_ne (by kernel_rfl!) ?_)))) Ev.str Cmp.eqS (by kernel_rfl!)) (by rw [cq, one_beq]; rfl)) (fun _ => ?_) (fun q => by cases q))
    refine Ex.cons (Ex1.ite (b := true) (EvT.of_eq (EvT.or (EvT.cmp (Ev.name (by (repeat' (with_reducible first | exact upd_eq | assumption | refine upd_ne (by kernel_rfl!) ?_)))) (Ev.name (by (repeat' (with_reducible first | exact upd_eq | assumption | refine upd_ne (by kernel_rfl!) ?_)))) Cmp.ge (by kernel_rfl!)) fun _ => EvT.or (EvT.cmp (Ev.itemS (c := 32) (Ev.name (by (repeat' (with_reducible first | exact upd_eq | assumption | refine upd_ne (by kernel_rfl!) ?_)))) (Ev.name (by (repeat' (with_reducible first | exact upd_eq | assumption | refine upd_ne (by kernel_rfl!) ?_)))) (Int.natCast_nonneg _) (j63 hP1) (by rw [Int.toNat_natCast]; exact e1) (by kernel_rfl!)) Ev.str Cmp.neS (by kernel_rfl!)) fun _ => EvT.orNil) (by rw [cq, bne, one_beq]; simp)) (fun _ => ?_) (fun q => by cases q))
    refine Ex.cons (Ex1.brk (seqR_brk (seqR_brk (seqR_brk (whileR_brk (seqR_next ?_))))))
    rw [List.append_nil] at hdr
    rw [hdr]
    exact Ex.cons (Ex1.ret (Ev.name (by (repeat' (with_reducible first | exact upd_eq | assumption | refine upd_ne (by kernel_rfl!) ?_)))) (seqR_ret rfl))
  | cons a rest =>
    by_cases ha : a = 34
    · subst ha
      have e0 : L.toArray[P]? = some 34 := hget 0
      have e1 : L.toArray[P + 1]? = some 34 := hget 1
      refine Ex.cons (Ex1.assign (d := .str ⟨#[34]⟩) (Ev.itemS (Ev.name (by (repeat' (with_reducible first | exact upd_eq | assumption | refine upd_ne (by kernel_rfl!) ?_)))) (Ev.name (by (repeat' (with_reducible first | exact upd_eq | assumption | refine upd_ne (by kernel_rfl!) ?_)))) (Int.natCast_nonneg _) (j63 (Nat.le_of_succ_le hP1)) (by rw [Int.toNat_natCast]; exact e0) (by kernel_rfl!)) (by (first | (refine Wr.loc ?_ ?_ ?_ <;> kernel_rfl!) | (refine Wr.cell ?_ ?_ ?_ <;> kernel_rfl!))) (seqR_next ?_) (by kernel_rfl!))
      refine Ex.cons (Ex1.assign (d := .int ((P + 1 : Nat) : Int)) (Ev.of_eq (Ev.bin (Ev.name (by (repeat' (with_reducible first | exact upd_eq | assumption | refine upd_ne (by kernel_rfl!) ?_)))) Ev.int Bin.add) (by push_cast; rfl)) (by (first | (refine Wr.loc ?_ ?_ ?_ <;> kernel_rfl!) | (refine Wr.cell ?_ ?_ ?_ <;> kernel_rfl!))) (seqR_next ?_) (by kernel_rfl!))
      refine Ex.cons (Ex1.ite (b := true) (EvT.of_eq (EvT.cmp (Ev.name (by (repeat' (with_reducible first | exact upd_eq | assumption | refine upd_ne (by kernel_rfl!) ?_)))) Ev.str Cmp.eqS (by kernel_rfl!)) (by rw [cq, one_beq]; rfl)) (fun _ => ?_) (fun q => by cases q))
      refine Ex.cons (Ex1.ite (b := false) (EvT.of_eq (EvT.or (EvT.cmp (Ev.name (by (repeat' (with_reducible first | exact upd_eq | assumption | refine upd_ne (by kernel_rfl!) ?_)))) (Ev.name (by (repeat' (with_reducible first | exact upd_eq | assumption | refine upd_ne (by kernel_rfl!) ?_)))) Cmp.ge (by kernel_rfl!)) fun _ => EvT.or (EvT.cmp (Ev.itemS (c := 34) (Ev.name (by (repeat' (with_reducible first | exact upd_eq | assumption | refine upd_ne (by kernel_rfl!) ?_)))) (Ev.name (by (repeat' (with_reducible first | exact upd_eq | assumption | refine upd_ne (by kernel_rfl!) ?_)))) (Int.natCast_nonneg _) (j63 hP1) (by rw [Int.toNat_natCast]; exact e1) (by kernel_rfl!)) Ev.str Cmp.neS (by kernel_rfl!)) fun _ => EvT.orNil) (by rw [cq, bne, one_beq, decide_eq_false (Int.not_le.mpr (Int.ofNat_lt.mpr hPL))]; rfl)) (fun q => by cases q) (fun _ => Ex.nil (seqR_next ?_)))
      refine Ex.cons (Ex1.assign (d := .int ((P + 2 : Nat) : Int)) (Ev.of_eq (Ev.bin (Ev.name (by (repeat' (with_reducible first | exact upd_eq | assumption | refine upd_ne (by kernel_rfl!) ?_)))) Ev.int Bin.add) (by push_cast; congr 1)) (by (first | (refine Wr.loc ?_ ?_ ?_ <;> kernel_rfl!) | (refine Wr.cell ?_ ?_ ?_ <;> kernel_rfl!))) (seqR_next (Ex.nil (seqR_next ?_))) (by kernel_rfl!))
      refine Ex.cons (Ex1.assign (d := .str ⟨(done ++ [34]).toArray⟩) (Ev.of_eq (Ev.bin (Ev.name (by (repeat' (with_reducible first | exact upd_eq | assumption | refine upd_ne (by kernel_rfl!) ?_)))) (Ev.name (by (repeat' (with_reducible first | exact upd_eq | assumption | refine upd_ne (by kernel_rfl!) ?_)))) (Bin.addS ?sz)) ?heq) (by (first | (refine Wr.loc ?_ ?_ ?_ <;> kernel_rfl!) | (refine Wr.cell ?_ ?_ ?_ <;> kernel_rfl!))) (seqR_next (Ex.nil (whileR_next (m := rest.length) (by rw [hm]; exact Nat.lt_succ_self _) ⟨done ++ [34], rest, by rw [hdr]; simp, rfl, by (repeat' (with_reducible first | exact upd_eq | assumption | refine upd_ne (by kernel_rfl!) ?_)), by (repeat' (with_reducible first | exact upd_eq | assumption | refine upd_ne (by kernel_rfl!) ?_)), by (repeat' (with_reducible first | exact upd_eq | assumption | refine upd_ne (by kernel_rfl!) ?_)), ?_⟩))) (by kernel_rfl!))
      case sz => rw [sizeStr, str_len]; exact Nat.le_trans (by show done.length + 1 ≤ 101; exact Nat.succ_le_succ hdz) (by decide)
      case heq => rw [str_app]; simp
      have e5 : 5 + (StrLaws.dbl 34 (done ++ [34])).length = P + 2 := by rw [dbl_app, List.length_append, ← hP]; rfl
      rw [e5]
      (repeat' (with_reducible first | exact upd_eq | assumption | refine upd_ne (by kernel_rfl!) ?_))
    · have ed : StrLaws.dbl 34 (a :: rest) = a :: StrLaws.dbl 34 rest := if_neg ha
      rw [ed] at hlen2 hget
      have e0 : L.toArray[P]? = some a := hget 0
      refine Ex.cons (Ex1.assign (d := .str ⟨#[a]⟩) (Ev.itemS (Ev.name (by (repeat' (with_reducible first | exact upd_eq | assumption | refine upd_ne (by kernel_rfl!) ?_)))) (Ev.name (by (repeat' (with_reducible first | exact upd_eq | assumption | refine upd_ne (by kernel_rfl!) ?_)))) (Int.natCast_nonneg _) (j63 (Nat.le_of_succ_le hP1)) (by rw [Int.toNat_natCast]; exact e0) (by kernel_rfl!)) (by (first | (refine Wr.loc ?_ ?_ ?_ <;> kernel_rfl!) | (refine Wr.cell ?_ ?_ ?_ <;> kernel_rfl!))) (seqR_next ?_) (by kernel_rfl!))
      refine Ex.cons (Ex1.assign (d := .int ((P + 1 : Nat) : Int)) (Ev.of_eq (Ev.bin (Ev.name (by (repeat' (with_reducible first | exact upd_eq | assumption | refine upd_ne (by kernel_rfl!) ?_)))) Ev.int Bin.add) (by push_cast; rfl)) (by (first | (refine Wr.loc ?_ ?_ ?_ <;> kernel_rfl!) | (refine Wr.cell ?_ ?_ ?_ <;> kernel_rfl!))) (seqR_next ?_) (by kernel_rfl!))
      refine Ex.cons (Ex1.ite (b := false) (EvT.of_eq (EvT.cmp (Ev.name (by (repeat' (with_reducible first | exact upd_eq | assumption | refine upd_ne (by kernel_rfl!) ?_)))) Ev.str Cmp.eqS (by kernel_rfl!)) (by rw [cq, one_beq]; exact decide_eq_false ha)) (fun q => by cases q) (fun _ => Ex.nil (seqR_next ?_)))
      refine Ex.cons (Ex1.assign (d := .str ⟨(done ++ [a]).toArray⟩) (Ev.of_eq (Ev.bin (Ev.name (by (repeat' (with_reducible first | exact upd_eq | assumption | refine upd_ne (by kernel_rfl!) ?_)))) (Ev.name (by (repeat' (with_reducible first | exact upd_eq | assumption | refine upd_ne (by kernel_rfl!) ?_)))) (Bin.addS ?sz)) ?heq) (by (first | (refine Wr.loc ?_ ?_ ?_ <;> kernel_rfl!) | (refine Wr.cell ?_ ?_ ?_ <;> kernel_rfl!))) (seqR_next (Ex.nil (whileR_next (m := rest.length) (by rw [hm]; exact Nat.lt_succ_self _) ⟨done ++ [a], rest, by rw [hdr]; simp, rfl, by (repeat' (with_reducible first | exact upd_eq | assumption | refine upd_ne (by kernel_rfl!) ?_)), by (repeat' (with_reducible first | exact upd_eq | assumption | refine upd_ne (by kernel_rfl!) ?_)), by (repeat' (with_reducible first | exact upd_eq | assumption | refine upd_ne (by kernel_rfl!) ?_)), ?_⟩))) (by kernel_rfl!))
      case sz => rw [sizeStr, str_len]; exact Nat.le_trans (by show done.length + 1 ≤ 101; exact Nat.succ_le_succ hdz) (by decide)
      case heq => rw [str_app]; simp
      have e5 : 5 + (StrLaws.dbl 34 (done ++ [a])).length = P + 1 := by
        rw [dbl_app, List.length_append, ← hP, show StrLaws.dbl 34 [a] = [a] from if_neg ha]; rfl
      rw [e5]
      (repeat' (with_reducible first | exact upd_eq | assumption | refine upd_ne (by kernel_rfl!) ?_))

/-! part W13 -/
theorem n_next (P : Params) : nsIn (hd.heap_39 P) mainGlobals (Str.ofString "next") = some none := by k_is
theorem b_next {Γ : G} {env : Env} {k : Nat} (S : Site Γ k) (eg : EnvG env) (hx : env.kindOf (Str.ofString "next") = some .globalImplicit) : Glb Γ env (Str.ofString "next") (.builtin "next") := Glb.builtin S eg n_next (by boot_fast) (by decide) hx (by decide)
theorem n_iter (P : Params) : nsIn (hd.heap_39 P) mainGlobals (Str.ofString "iter") = some none := by k_is
theorem b_iter {Γ : G} {env : Env} {k : Nat} (S : Site Γ k) (eg : EnvG env) (hx : env.kindOf (Str.ofString "iter") = some .globalImplicit) : Glb Γ env (Str.ofString "iter") (.builtin "iter") := Glb.builtin S eg n_iter (by boot_fast) (by decide) hx (by decide)
theorem n_ord (P : Params) : nsIn (hd.heap_39 P) mainGlobals (Str.ofString "ord") = some none := by k_is
theorem b_ord {Γ : G} {env : Env} {k : Nat} (S : Site Γ k) (eg : EnvG env) (hx : env.kindOf (Str.ofString "ord") = some .globalImplicit) : Glb Γ env (Str.ofString "ord") (.builtin "ord") := Glb.builtin S eg n_ord (by boot_fast) (by decide) hx (by decide)
theorem n_varint (P : Params) : nsIn (hd.heap_39 P) mainGlobals (Str.ofString "_parse_varint") = some (some (.ref 35)) := by k_is
theorem keep_varint (P : Params) : keepIn (hd.heap_39 P) (.ref 35) = true := by k_is
theorem n_p257 (P : Params) : nsIn (hd.heap_39 P) mainGlobals (Str.ofString "parse257") = some (some (.ref 86)) := by k_is
theorem keep_p257 (P : Params) : keepIn (hd.heap_39 P) (.ref 86) = true := by k_is
theorem and64 : ∀ q : Fin 64, Builtin.bitAnd ((q.val : Nat) : Int) 64 = 0 := by decide +kernel
theorem and64' : ∀ q : Fin 64, Builtin.bitAnd ((64 + q.val : Nat) : Int) 64 = 64 := by decide +kernel
theorem or64 : ∀ n : Fin 768, Builtin.bitOr (((n.val / 64 : Nat) : Int) * 2 ^ (6 : Int).toNat) (Builtin.bitAnd ((n.val % 64 : Nat) : Int) 63) = ((n.val : Nat) : Int) := by decide +kernel
set_option maxHeartbeats 1000000 in
theorem varint_fn {Γ : G} {k : Nat} (S : Site Γ (k + 1)) (n : Nat) (hn : n < 768) {I l : Addr} {vs : List Value} {xs : List (Int × Tok)} (hvs : vs = xs.map fun p => Value.int p.1 p.2) (hxs : xs.map (·.1) = (signsF n).map fun c : Nat => (c : Int))
    {O : Addr → Prop} {s : Shared} {h₀ : Heap} (fr₀ : FrOk Γ h₀) (g₀ : h₀.StaysIn s.heap) (hz₀ : h₀.objs.size ≤ s.heap.objs.size) (hI : h₀.get? I = none) (al : Alive O s.heap) (it : ItOk I l vs 0 O s.heap)
    {Q : Value → Shared → Prop} (hQ : ∀ v h' tk', h₀.StaysIn h' → (∃ O' : Addr → Prop, (∀ a, O a → O' a) ∧ Rep O' h' v (.int (n : Int))) → Q v { s with heap := h', toks := tk' }) : wpAny Γ.M Γ.A (call (.ref 35) [.ref I]) Q No s := by
  k_dflt (refine' Fn.enterI (p := Str.ofString "iterator") ?ho ?hcd ?hb ?hkd ?hnc ?hd ?c1 ?c2 ?c3 S ?body fr₀ g₀ hz₀ hI al it hQ)
  case ho => intro P; k_is
  case hcd => intro P; k_is
  case hb => intro v; rfl
  case hkd => kernel_rfl!
  case hnc => intro n; kernel_rfl!
  case hd => decide
  case c1 => rfl
  case c2 => rfl
  case c3 => rfl
  intro Γ' S' hbI
  have p1 : (fun x => if x = Str.ofString "iterator" then some (SV.imm (.obj I)) else none : Store) (Str.ofString "iterator") = some (.imm (.obj I)) := if_pos rfl
  generalize (fun x => if x = Str.ofString "iterator" then some (SV.imm (.obj I)) else none : Store) = σ at p1
  have hget : ∀ (j c : Nat), (signsF n)[j]? = some c → ∃ t, vs[j]? = some (.int (c : Int) t) := fun j c h => by
    have : (xs.map (·.1))[j]? = some (c : Int) := by rw [hxs, List.getElem?_map, h]; rfl
    rw [List.getElem?_map, Option.map_eq_some_iff] at this
    obtain ⟨⟨a, t⟩, e1, e2⟩ := this
    simp only at e2
    subst e2
    exact ⟨t, by rw [hvs, List.getElem?_map, e1]; rfl⟩
  by_cases h63 : 63 < n
  · have es : signsF n = [64 + n / 64, n % 64] := if_pos h63
    rw [es] at hget
    obtain ⟨t0, v0⟩ := hget 0 (64 + n / 64) rfl
    obtain ⟨t1, v1⟩ := hget 1 (n % 64) rfl
    have hq : n / 64 < 64 := by omega
    refine ExI.next (d := .int ((64 + n / 64 : Nat) : Int)) (b_next S' (by (refine EnvG.mk' ?_ ?_ ?_ <;> kernel_rfl!)) (by kernel_rfl!)) (by (repeat' (with_reducible first | exact upd_eq | assumption | refine upd_ne (by kernel_rfl!) ?_))) hbI v0 (fun _ _ => .int _ _) (by (first | (refine Wr.loc ?_ ?_ ?_ <;> kernel_rfl!) | (refine Wr.cell ?_ ?_ ?_ <;> kernel_rfl!))) ?_
    refine ExI.plain (Ex1.assign (d := .int ((n / 64 : Nat) : Int)) (Ev.of_eq (Ev.bin (Ev.name (by (repeat' (with_reducible first | exact upd_eq | assumption | refine upd_ne (by kernel_rfl!) ?_)))) Ev.int Bin.and) (by rw [bitAnd_m6]; congr 1; omega)) (by (first | (refine Wr.loc ?_ ?_ ?_ <;> kernel_rfl!) | (refine Wr.cell ?_ ?_ ?_ <;> kernel_rfl!))) rfl (by kernel_rfl!)) ?_
    refine ExI.while (fun k σ i => (k = 1 ∧ i = 0 + 1 ∧ σ (Str.ofString "iterator") = some (.imm (.obj I)) ∧ σ (Str.ofString "b") = some (.imm (.int ((64 + n / 64 : Nat) : Int))) ∧ σ (Str.ofString "val") = some (.imm (.int ((n / 64 : Nat) : Int)))) ∨ (k = 0 ∧ i = 0 + 1 + 1 ∧ σ (Str.ofString "b") = some (.imm (.int ((n % 64 : Nat) : Int))) ∧ σ (Str.ofString "val") = some (.imm (.int (n : Int))))) 1 (.inl ⟨rfl, rfl, by (repeat' (with_reducible first | exact upd_eq | assumption | refine upd_ne (by kernel_rfl!) ?_)), by (repeat' (with_reducible first | exact upd_eq | assumption | refine upd_ne (by kernel_rfl!) ?_)), by (repeat' (with_reducible first | exact upd_eq | assumption | refine upd_ne (by kernel_rfl!) ?_))⟩) ?_
    rintro m σ2 i2 (⟨rfl, rfl, g0, g1, g2⟩ | ⟨rfl, rfl, g1, g2⟩)
    · refine ⟨true, EvT.of_eq (EvT.of (Ev.bin (Ev.name (by (repeat' (with_reducible first | exact upd_eq | assumption | refine upd_ne (by kernel_rfl!) ?_)))) Ev.int Bin.and) Tru.int (by kernel_rfl!)) (by rw [and64' ⟨n / 64, hq⟩]; rfl), fun _ => ?_, fun q => by cases q⟩
      refine ExI.plain (Ex1.aug (a := ((n / 64 : Nat) : Int)) (b := 6) (by (repeat' (with_reducible first | exact upd_eq | assumption | refine upd_ne (by kernel_rfl!) ?_))) Ev.int (Inp.shl (by decide) ?_) rfl) ?_
      · have : Builtin.Int.intBits ((n / 64 : Nat) : Int) ≤ 64 := bits_nat (by omega)
        have : (2 : Int) ^ 27 = 134217728 := by decide
        omega
      refine ExI.next (d := .int ((n % 64 : Nat) : Int)) (b_next S' (by (refine EnvG.mk' ?_ ?_ ?_ <;> kernel_rfl!)) (by kernel_rfl!)) (by (repeat' (with_reducible first | exact upd_eq | assumption | refine upd_ne (by kernel_rfl!) ?_))) hbI v1 (fun _ _ => .int _ _) (by (first | (refine Wr.loc ?_ ?_ ?_ <;> kernel_rfl!) | (refine Wr.cell ?_ ?_ ?_ <;> kernel_rfl!))) ?_
      refine ExI.plain (Ex1.aug (a := ((n / 64 : Nat) : Int) * 2 ^ (6 : Int).toNat) (b := Builtin.bitAnd ((n % 64 : Nat) : Int) 63) (c := (n : Int)) (by (repeat' (with_reducible first | exact upd_eq | assumption | refine upd_ne (by kernel_rfl!) ?_))) (Ev.bin (Ev.name (by (repeat' (with_reducible first | exact upd_eq | assumption | refine upd_ne (by kernel_rfl!) ?_)))) Ev.int Bin.and) ?_ rfl) ?_
      · have := Inp.or (Γ := Γ') (a := ((n / 64 : Nat) : Int) * 2 ^ (6 : Int).toNat) (b := Builtin.bitAnd ((n % 64 : Nat) : Int) 63)
        rw [or64 ⟨n, hn⟩] at this
        exact this
      exact ExI.nil ⟨_, rfl, 0, by decide, .inr ⟨rfl, rfl, by (repeat' (with_reducible first | exact upd_eq | assumption | refine upd_ne (by kernel_rfl!) ?_)), by (repeat' (with_reducible first | exact upd_eq | assumption | refine upd_ne (by kernel_rfl!) ?_))⟩⟩
    · refine ⟨false, EvT.of_eq (EvT.of (Ev.bin (Ev.name (by (repeat' (with_reducible first | exact upd_eq | assumption | refine upd_ne (by kernel_rfl!) ?_)))) Ev.int Bin.and) Tru.int (by kernel_rfl!)) (by rw [and64 ⟨n % 64, by omega⟩]; rfl), (fun q => by cases q), fun _ => ?_⟩
      exact ExI.ret (Ev.name (by (repeat' (with_reducible first | exact upd_eq | assumption | refine upd_ne (by kernel_rfl!) ?_)))) rfl
  · have es : signsF n = [n] := if_neg h63
    rw [es] at hget
    obtain ⟨t0, v0⟩ := hget 0 n rfl
    refine ExI.next (d := .int (n : Int)) (b_next S' (by (refine EnvG.mk' ?_ ?_ ?_ <;> kernel_rfl!)) (by kernel_rfl!)) (by (repeat' (with_reducible first | exact upd_eq | assumption | refine upd_ne (by kernel_rfl!) ?_))) hbI v0 (fun _ _ => .int _ _) (by (first | (refine Wr.loc ?_ ?_ ?_ <;> kernel_rfl!) | (refine Wr.cell ?_ ?_ ?_ <;> kernel_rfl!))) ?_
    refine ExI.plain (Ex1.assign (d := .int (n : Int)) (Ev.of_eq (Ev.bin (Ev.name (by (repeat' (with_reducible first | exact upd_eq | assumption | refine upd_ne (by kernel_rfl!) ?_)))) Ev.int Bin.and) (by rw [bitAnd_m6]; congr 1; omega)) (by (first | (refine Wr.loc ?_ ?_ ?_ <;> kernel_rfl!) | (refine Wr.cell ?_ ?_ ?_ <;> kernel_rfl!))) rfl (by kernel_rfl!)) ?_
    refine ExI.while (fun k σ i => σ (Str.ofString "b") = some (.imm (.int (n : Int))) ∧ σ (Str.ofString "val") = some (.imm (.int (n : Int)))) 0 ⟨by (repeat' (with_reducible first | exact upd_eq | assumption | refine upd_ne (by kernel_rfl!) ?_)), by (repeat' (with_reducible first | exact upd_eq | assumption | refine upd_ne (by kernel_rfl!) ?_))⟩ ?_
    rintro m σ2 i2 ⟨g1, g2⟩
    refine ⟨false, EvT.of_eq (EvT.of (Ev.bin (Ev.name (by (repeat' (with_reducible first | exact upd_eq | assumption | refine upd_ne (by kernel_rfl!) ?_)))) Ev.int Bin.and) Tru.int (by kernel_rfl!)) (by rw [and64 ⟨n, by omega⟩]; rfl), (fun q => by cases q), fun _ => ?_⟩
    exact ExI.ret (Ev.name (by (repeat' (with_reducible first | exact upd_eq | assumption | refine upd_ne (by kernel_rfl!) ?_)))) rfl
theorem signs_ascii (n : Nat) (hn : n < 768) : ((⟨(signsF n).toArray⟩ : Str).cps.all (· < 128)) = true := by
  unfold signsF
  split
  · simp; omega
  · simp; omega
theorem Ev.heard {Γ : G} {env : Env} {ρ : Store} {k : Nat} (S : Site Γ (k + 1)) (n : Nat) (hn : n < 768) {e : Expr} {pa pb pc pd : Pos} (hg1 : Glb Γ env (Str.ofString "_parse_varint") (.ref 35)) (hg2 : Glb Γ env (Str.ofString "iter") (.builtin "iter")) (he : Ev Γ env ρ e (.lst (intL ((signsF n).map fun c : Nat => (c : Int))))) (hp : plainE e = true) :
    Ev Γ env ρ (.Call (.Name (Str.ofString "_parse_varint") pa) [.Call (.Name (Str.ofString "iter") pb) [e] [] pc] [] pd) (.int (n : Int)) := by
  constructor; intro O s ok Q hQ
  refine Call_ (hg1.run pa _ _ s ok.fr ?_) rfl
  refine callWith_K S.X (keep_varint _) (spliced_more (Call_ (hg2.run pb _ _ s ok.fr ?_) rfl) (star_plain rfl)) (star_plain rfl) rfl
  refine PyProof.Rows.callWith_builtin1 (spliced_more (he.run O s ok _ fun v h₁ tk₁ g₁ r₁ => spliced_none ?_) (star_plain hp)) (star_plain hp) rfl
  obtain ⟨l, vs, rfl, hlO, hl, hr⟩ := r₁.inv
  obtain ⟨xs, rfl, exs⟩ := ints_items hr
  refine call_iter_list (s := { s with heap := h₁, toks := tk₁ }) hl (spliced_none ⟨?_, ?_⟩)
  · obtain ⟨m, F⟩ := ok.fr.grow g₁
    exact (S.X.keeps F.keep).keeps fun b o e => keep_push b o e
  · have ok1 := ok.grow g₁
    have up : h₁.StaysIn (h₁.push { cls := .type "list_iterator", data := .fields #[.ref l, .int 0 0] }) := keep_push
    refine varint_fn S n hn (vs := xs.map fun p => Value.int p.1 p.2) rfl exs (O := O) (h₀ := h₁) (s := { s with heap := h₁.push { cls := .type "list_iterator", data := .fields #[.ref l, .int 0 0] }, toks := tk₁ }) ok1.fr up (by show h₁.objs.size ≤ (h₁.push _).objs.size; rw [Heap.size_push]; exact Nat.le_succ _) (Heap.get?_none_of_le (Nat.le_refl _)) (ok1.alive.grow up) ⟨ok1.alive.fresh (Heap.get?_none_of_le (Nat.le_refl _)), hlO, ⟨_, Heap.get?_push_size _ rfl, rfl, rfl⟩, hl.push _⟩ fun v h' tk' g' rep => ?_
    obtain ⟨O', _, rep⟩ := rep
    obtain ⟨_, rfl⟩ := rep.inv
    exact hQ _ h' tk' (StaysIn.trans g₁ g') (.int _ _)
set_option maxHeartbeats 1000000 in
theorem heard_fn {Γ : G} {k : Nat} (S : Site Γ (k + 1 + 1)) (n : Nat) (hn : n < 768) : CallR Γ (.ref 105) [.str ⟨(sentL n).toArray⟩] (.int (n : Int)) := by
  have sl := signs_len n
  k_dflt (refine' Fn.enter (ps := [Str.ofString "reply"]) ?ho ?hcd ?hb ?hl ?hk ?c1 ?c2 ?c3 S ?body)
  case ho => intro P; k_is
  case hcd => intro P; k_is
  case hb => exact vs1 rfl fun _ => rfl
  case hl => rfl
  case hk => exact ⟨⟨by first | exact .inl ⟨by kernel_rfl!, fun n => by kernel_rfl!⟩ | exact .inr ⟨by kernel_rfl!, fun n => by kernel_rfl!⟩, by decide⟩, trivial⟩
  case c1 => rfl
  case c2 => rfl
  case c3 => rfl
  intro Γ' S' h0
  have p1 : parS [Str.ofString "reply"] [(.str ⟨(sentL n).toArray⟩)] (Str.ofString "reply") = some (.imm (.str ⟨(sentL n).toArray⟩)) := by kernel_rfl!
  generalize parS [Str.ofString "reply"] [(.str ⟨(sentL n).toArray⟩)] = σ at p1
  refine Ex.cons (Ex1.ret (Ev.heard S' n hn (Glb.fn S' (by (refine EnvG.mk' ?_ ?_ ?_ <;> kernel_rfl!)) n_varint (by kernel_rfl!) (by decide)) (b_iter S' (by (refine EnvG.mk' ?_ ?_ ?_ <;> kernel_rfl!)) (by kernel_rfl!)) (Ev.of_eq (Ev.comp S' (l := signsF n) (gt := fun c => .str ⟨#[c]⟩) (fr := []) (cl := []) (fun _ => true) (fun c : Nat => .int (c : Int)) (Src.strA S' (x := ⟨(signsF n).toArray⟩) (Ev.callF S' (Glb.fn S' (by (refine EnvG.mk' ?_ ?_ ?_ <;> kernel_rfl!)) n_p257 (by kernel_rfl!) (by decide)) keep_p257 (EvS.cons (Ev.name p1) EvS.nil (by kernel_rfl!)) (parse257_fn S' (signsF n) [105, 115, 32, 111, 110, 101, 32, 118, 111, 116, 101, 114] (by omega) (by decide)) (by kernel_rfl!)) (signs_ascii n hn)) ?cok (fun a _ C => EvIf.nil) (fun c _ _ C => Ev.callB (b_ord S' (by (refine EnvG.mk' ?_ ?_ ?_ <;> kernel_rfl!)) (by kernel_rfl!)) (EvS.cons (Ev.name compS_x) EvS.nil (by kernel_rfl!)) CallR.ord (by kernel_rfl!)) (Nat.le_trans sl (by decide)) (by kernel_rfl!)) ?eqd) (by kernel_rfl!)) (seqR_ret rfl))
  case cok => exact ⟨by kernel_rfl!, by kernel_rfl!, by decide, fun C => .inl ⟨by kernel_rfl!, by kernel_rfl!⟩, by kernel_rfl!, fun C y hy => by cases hy⟩
  case eqd => rw [pv_filter_true]; simp [intL, Function.comp_def]

/-! part W14 -/
noncomputable def joinL (m : Nat) : List (List Nat) → List Nat
  | [] => []
  | [x] => x
  | x :: y :: r => x ++ m :: joinL m (y :: r)
theorem cut_inj {m : Nat} : ∀ {p q A B : List Nat}, m ∉ p → m ∉ q → p ++ m :: A = q ++ m :: B → p = q ∧ A = B
  | [], [], _, _, _, _, h => ⟨rfl, by simpa using h⟩
  | [], b :: q, _, _, _, h2, h => by
    have : m = b := by simpa using congrArg List.head? h
    exact absurd (this ▸ List.mem_cons_self) h2
  | a :: p, [], _, _, h1, _, h => by
    have : a = m := by simpa using congrArg List.head? h
    exact absurd (this ▸ List.mem_cons_self) h1
  | a :: p, b :: q, A, B, h1, h2, h => by
    rw [List.cons_append, List.cons_append, List.cons.injEq] at h
    obtain ⟨e1, e2⟩ := cut_inj (fun z => h1 (List.mem_cons_of_mem _ z)) (fun z => h2 (List.mem_cons_of_mem _ z)) h.2
    exact ⟨by rw [h.1, e1], e2⟩
theorem joinL_inj {m : Nat} : ∀ {ps qs : List (List Nat)}, (∀ p ∈ ps, m ∉ p) → (∀ q ∈ qs, m ∉ q) → ps ≠ [] → qs ≠ [] → joinL m ps = joinL m qs → ps = qs
  | [], _, _, _, h, _, _ => absurd rfl h
  | _ :: _, [], _, _, _, h, _ => absurd rfl h
  | [p], [q], _, _, _, _, h => by simpa [joinL] using h
  | [p], q :: q2 :: r, h1, _, _, _, h => by
    have e : p = q ++ m :: joinL m (q2 :: r) := h
    exact absurd (by rw [e]; simp) (h1 p List.mem_cons_self)
  | p :: p2 :: r, [q], _, h2, _, _, h => by
    have e : p ++ m :: joinL m (p2 :: r) = q := h
    exact absurd (by rw [← e]; simp) (h2 q List.mem_cons_self)
  | p :: p2 :: r, q :: q2 :: r', h1, h2, _, _, h => by
    have e : p ++ m :: joinL m (p2 :: r) = q ++ m :: joinL m (q2 :: r') := h
    obtain ⟨e1, e2⟩ := cut_inj (h1 p List.mem_cons_self) (h2 q List.mem_cons_self) e
    rw [e1, joinL_inj (fun p hp => h1 p (List.mem_cons_of_mem _ hp)) (fun q hq => h2 q (List.mem_cons_of_mem _ hq)) (by simp) (by simp) e2]
theorem join_str (m : Nat) : ∀ ps : List Str, (Str.join ⟨#[m]⟩ ps).cps.toList = joinL m (ps.map fun p => p.cps.toList)
  | [] => rfl
  | [x] => rfl
  | x :: y :: r => by
    show (x ++ ⟨#[m]⟩ ++ Str.join ⟨#[m]⟩ (y :: r)).cps.toList = _
    rw [PySem.Str.cps_append, PySem.Str.cps_append, Array.toList_append, Array.toList_append, join_str m (y :: r)]
    simp [joinL]
theorem split_five {m : Nat} {ds : List Nat} (h : m ∉ ds) : Txt.split ⟨([m, m, m] ++ ds ++ [m]).toArray⟩ ⟨#[m]⟩ = [⟨#[]⟩, ⟨#[]⟩, ⟨#[]⟩, ⟨ds.toArray⟩, ⟨#[]⟩] := by
  have h1 := StrLaws.join_split ⟨([m, m, m] ++ ds ++ [m]).toArray⟩ ⟨#[m]⟩
  have h2 := StrLaws.split_free ⟨([m, m, m] ++ ds ++ [m]).toArray⟩ m
  have h3 := split_pos ⟨([m, m, m] ++ ds ++ [m]).toArray⟩ ⟨#[m]⟩
  generalize Txt.split ⟨([m, m, m] ++ ds ++ [m]).toArray⟩ ⟨#[m]⟩ = ps at h1 h2 h3
  have e1 : joinL m (ps.map fun p => p.cps.toList) = joinL m [[], [], [], ds, []] := by
    rw [← join_str, h1]; simp [joinL]
  have e2 := joinL_inj (ps := ps.map fun p => p.cps.toList) (qs := [[], [], [], ds, []]) (fun p hp => by
    obtain ⟨q, hq, rfl⟩ := List.mem_map.mp hp; exact h2 q hq) (fun q hq => by
      simp only [List.mem_cons, List.not_mem_nil, or_false] at hq
      rcases hq with rfl | rfl | rfl | rfl | rfl <;> simp [h]) (by intro e; rw [List.map_eq_nil_iff] at e; rw [e] at h3; exact absurd h3 (by decide)) (by simp) e1
  have e3 : ps = (ps.map fun p => p.cps.toList).map fun l => (⟨l.toArray⟩ : Str) := by rw [List.map_map]; simp [Function.comp_def]
  rw [e3, e2]; rfl
theorem find3_at {L : List Nat} {c i k : Nat} (h1 : i ≤ k) (h2 : k < L.length) (h3 : L.getD k 0 = c) (h4 : ∀ v, i ≤ v → v < k → L.getD v 0 ≠ c) : Txt.find3 ⟨L.toArray⟩ ⟨#[c]⟩ (i : Int) = (k : Int) := by
  have hf : PySem.fromIndex (⟨L.toArray⟩ : Str).length (i : Int) = i := by
    unfold PySem.fromIndex; rw [if_neg (by omega)]; omega
  have hg : ∀ v, (⟨L.toArray⟩ : Str).cps.getD v 0 = L.getD v 0 := fun v => by simp [List.getD_eq_getElem?_getD]
  have hl : (⟨L.toArray⟩ : Str).length = L.length := sizeStr L
  rcases StrLaws.find3_spec ⟨L.toArray⟩ c (i : Int) with ⟨_, h⟩ | ⟨k', e, a, b, d, f⟩
  · rw [hf, hl] at h
    exact absurd ((hg k).trans h3) (h k h1 h2)
  · rw [hf] at a f
    rw [hg] at d
    rcases Nat.lt_trichotomy k' k with q | q | q
    · exact absurd d (h4 k' a q)
    · rw [e, q]
    · exact absurd ((hg k).trans h3) (f k h1 q)
theorem find_at {L : List Nat} {c k : Nat} (h2 : k < L.length) (h3 : L.getD k 0 = c) (h4 : ∀ v, v < k → L.getD v 0 ≠ c) : Txt.find ⟨L.toArray⟩ ⟨#[c]⟩ = (k : Int) := by
  rw [find_is_find3]
  exact find3_at (i := 0) (Nat.zero_le _) h2 h3 fun v _ hv => h4 v hv
noncomputable def pre229 : List Nat := [50, 50, 57, 32, 99, 97, 114, 114, 105, 101, 100, 32, 98, 121, 32, 40]
noncomputable def p229 (m : Nat) (ds : List Nat) : List Nat := pre229 ++ ([m, m, m] ++ ds ++ [m]) ++ [41]
theorem c229 : Str.ofString "229" = ⟨#[50, 50, 57]⟩ := by decide +kernel
theorem clp : Str.ofString "(" = ⟨#[40]⟩ := by decide +kernel
theorem crp : Str.ofString ")" = ⟨#[41]⟩ := by decide +kernel
theorem getD_mid {A B C : List Nat} {v : Nat} (h1 : A.length ≤ v) (h2 : v < A.length + B.length) : (A ++ B ++ C).getD v 0 ∈ B := by
  rw [List.getD_eq_getElem?_getD, List.append_assoc, List.getElem?_append_right h1, List.getElem?_append_left (by omega), List.getElem?_eq_getElem (by omega)]
  exact List.getElem_mem _
theorem getD_pre {A B : List Nat} {v : Nat} (h : v < A.length) : (A ++ B).getD v 0 = A.getD v 0 := by
  rw [List.getD_eq_getElem?_getD, List.getD_eq_getElem?_getD, List.getElem?_append_left h]
theorem arr_get {L : List Nat} {i c : Nat} (h : L.getD i 0 = c) (hl : i < L.length) : (⟨L.toArray⟩ : Str).cps[i]? = some c := by
  show L.toArray[i]? = _
  rw [List.getElem?_toArray, List.getElem?_eq_getElem hl, ← h, List.getD_eq_getElem?_getD, List.getElem?_eq_getElem hl]; rfl
theorem mark_ok {m : Nat} (hm : m = 124 ∨ m = 33 ∨ m = 126) : ¬ (48 ≤ m ∧ m ≤ 57) ∧ (m ≠ 41 ∧ m < 128) := by
  rcases hm with rfl | rfl | rfl <;> decide
theorem l229a (d : Nat) : 3 + d + 1 = 4 + d := by omega
theorem l229b (d : Nat) : 16 + (4 + d) + 1 = 21 + d := by omega
theorem l229c (d : Nat) : 16 + (4 + d) = 20 + d := (Nat.add_assoc 16 4 d).symm
theorem l229d (d : Nat) : 20 + d - 16 = 4 + d := by rw [← l229c, Nat.add_sub_cancel_left]
theorem l229e (d : Nat) : 19 + d - 16 = 3 + d := by rw [show 19 + d = 16 + (3 + d) from Nat.add_assoc 16 3 d, Nat.add_sub_cancel_left]
set_option maxHeartbeats 1000000 in
theorem parse229_fn {Γ : G} {k : Nat} (S : Site Γ (k + 1)) (m : Nat) (q : Int) (hm : m = 124 ∨ m = 33 ∨ m = 126) (h0q : 0 ≤ q) (hq : q < 10 ^ 10) {ds : List Nat} (hds : Str.ofString (toString q) = ⟨ds.toArray⟩) (hdg : ∀ c ∈ ds, 48 ≤ c ∧ c ≤ 57) (hdl : ds.length ≤ 10) (host : D) :
    CallR Γ (.ref 79) [.str ⟨(p229 m ds).toArray⟩, .tup [host, .int 21]] (.tup [host, .int q]) := by
  have hmd : m ∉ ds := fun h => (mark_ok hm).1 (hdg m h)
  have hpl : pre229.length = 16 := rfl
  have hil : ([m, m, m] ++ ds ++ [m] : List Nat).length = 4 + ds.length := by rw [List.length_append, List.length_append]; exact l229a _
  have hlen : (p229 m ds).length = 21 + ds.length := by unfold p229; rw [List.length_append, List.length_append, hpl, hil]; exact l229b _
  have hinn : ∀ c ∈ ([m, m, m] ++ ds ++ [m] : List Nat), c ≠ 41 ∧ c < 128 := fun c hc => by
    simp only [List.mem_append, List.mem_cons, List.not_mem_nil, or_false] at hc
    rcases hc with (h | h) | h
    · have e : c = m := h.elim id fun h => h.elim id id
      rw [e]; exact (mark_ok hm).2
    · have h := hdg c h
      exact ⟨fun e => absurd h.1 (by rw [e]; decide), Nat.lt_of_le_of_lt h.2 (by decide)⟩
    · rw [h]; exact (mark_ok hm).2
  have h16 : ∀ n, n ≤ 16 → n ≤ (p229 m ds).length := fun n h => by rw [hlen]; exact Nat.le_trans h (Nat.le_trans (by decide : 16 ≤ 21) (Nat.le_add_right _ _))
  have h19 : 19 + ds.length < (p229 m ds).length := by rw [hlen]; exact Nat.add_lt_add_right (by decide) _
  have h20 : 20 + ds.length < (p229 m ds).length := by rw [hlen]; exact Nat.add_lt_add_right (by decide) _
  have hsz : (⟨(p229 m ds).toArray⟩ : Str).length ≤ sizeLine := by rw [sizeStr, hlen]; exact Nat.le_trans (Nat.le_trans (Nat.add_le_add_left hdl 21) (by decide) : 21 + ds.length ≤ 100) (by decide)
  have s1 : sliceT ⟨(p229 m ds).toArray⟩ none (some 3) = Str.ofString "229" := by
    have h3 : kms_hi (some 3) (p229 m ds).length = 3 := hi_nat (i := 3) (h16 3 (by decide))
    rw [c229, sliceT_eq (i := 0) (j := 3) rfl h3]; rfl
  have f1 : Txt.find ⟨(p229 m ds).toArray⟩ (Str.ofString "(") = 15 := by
    rw [clp]
    refine find_at (k := 15) (h16 16 (Nat.le_refl _)) ?_ fun v hv => ?_
    · unfold p229; rw [List.append_assoc, getD_pre (by rw [hpl]; decide)]; rfl
    · unfold p229; rw [List.append_assoc, getD_pre (by rw [hpl]; exact Nat.lt_succ_of_lt hv)]
      have : ∀ v : Fin 15, pre229.getD v.val 0 ≠ 40 := by decide
      exact this ⟨v, hv⟩
  have f2 : Txt.find3 ⟨(p229 m ds).toArray⟩ (Str.ofString ")") 16 = ((20 + ds.length : Nat) : Int) := by
    rw [crp]
    refine find3_at (i := 16) (k := 20 + ds.length) (Nat.le_trans (by decide) (Nat.le_add_right 20 _)) h20 ?_ fun v h1 h2 => ?_
    · unfold p229
      rw [List.getD_eq_getElem?_getD, List.getElem?_append_right (by rw [List.length_append, hpl, hil, l229c]; exact Nat.le_refl _), List.length_append, hpl, hil, l229c, Nat.sub_self]; rfl
    · exact (hinn _ (getD_mid (by rw [hpl]; exact h1) (by rw [hpl, hil, l229c]; exact h2))).1
  have s2 : sliceT ⟨(p229 m ds).toArray⟩ (some 16) (some ((20 + ds.length : Nat) : Int)) = ⟨([m, m, m] ++ ds ++ [m]).toArray⟩ := by
    have h3 : kms_lo (some 16) (p229 m ds).length = 16 := lo_nat (i := 16) (h16 16 (Nat.le_refl _))
    rw [sliceT_eq h3 (hi_nat (Nat.le_of_lt h20))]
    congr 2
    unfold p229
    rw [List.append_assoc pre229, List.drop_append_of_le_length (by rw [hpl]; decide), show pre229.drop 16 = [] from rfl, List.nil_append, show 20 + ds.length - 16 = ([m, m, m] ++ ds ++ [m] : List Nat).length by rw [hil]; exact l229d _, List.take_left]
  have g1 : (⟨(p229 m ds).toArray⟩ : Str).cps[16]? = some m := arr_get (by unfold p229; rw [List.getD_eq_getElem?_getD, List.append_assoc, List.getElem?_append_right (by rw [hpl]; decide)]; rfl) (Nat.lt_of_lt_of_le (by decide : 16 < 20 + 1) (Nat.le_trans (Nat.le_add_right _ ds.length) (by rw [hlen]; exact Nat.le_refl _)))
  have g2 : (⟨(p229 m ds).toArray⟩ : Str).cps[19 + ds.length]? = some m := arr_get (by
    unfold p229
    rw [List.getD_eq_getElem?_getD, List.append_assoc, List.getElem?_append_right (by rw [hpl]; exact Nat.le_trans (by decide) (Nat.le_add_right 19 _)), hpl, List.getElem?_append_left (by rw [hil, l229e]; exact Nat.add_lt_add_right (by decide) _), List.getElem?_append_right (by rw [List.length_append, l229e]; exact Nat.le_refl _), l229e]
    rw [List.length_append, show 3 + ds.length - ([m, m, m].length + ds.length) = 0 from Nat.sub_self _]; rfl) h19
  have spl := split_five hmd
  k_dflt (refine' Fn.enter (ps := [Str.ofString "resp", Str.ofString "peer"]) ?ho ?hcd ?hb ?hl ?hk ?c1 ?c2 ?c3 S ?body)
  case ho => intro P; k_is
  case hcd => intro P; k_is
  case hb => exact vs2 rfl fun _ _ => rfl
  case hl => rfl
  case hk => exact ⟨⟨by first | exact .inl ⟨by kernel_rfl!, fun n => by kernel_rfl!⟩ | exact .inr ⟨by kernel_rfl!, fun n => by kernel_rfl!⟩, by decide⟩, ⟨by first | exact .inl ⟨by kernel_rfl!, fun n => by kernel_rfl!⟩ | exact .inr ⟨by kernel_rfl!, fun n => by kernel_rfl!⟩, by decide⟩, trivial⟩
  case c1 => rfl
  case c2 => rfl
  case c3 => rfl
  intro Γ' S' h0
  have p1 : parS [Str.ofString "resp", Str.ofString "peer"] [(.str ⟨(p229 m ds).toArray⟩), (.tup [host, .int 21])] (Str.ofString "resp") = some (.imm (.str ⟨(p229 m ds).toArray⟩)) := by kernel_rfl!
  have p2 : parS [Str.ofString "resp", Str.ofString "peer"] [(.str ⟨(p229 m ds).toArray⟩), (.tup [host, .int 21])] (Str.ofString "peer") = some (.imm (.tup [host, .int 21])) := by kernel_rfl!
  generalize parS [Str.ofString "resp", Str.ofString "peer"] [(.str ⟨(p229 m ds).toArray⟩), (.tup [host, .int 21])] = σ at p1 p2
  refine Ex.cons (Ex1.ite (b := false) (EvT.of_eq (EvT.cmp (Ev.sliceS (a := none) (b := some 3) (Ev.name (by (repeat' (with_reducible first | exact upd_eq | assumption | refine upd_ne (by kernel_rfl!) ?_)))) EvP.none (EvP.some Ev.int) hsz) Ev.str Cmp.neS (by kernel_rfl!)) (by rw [s1]; exact bne_self_eq_false _)) (fun q => by cases q) fun _ => Ex.nil (seqR_next ?_))
  refine Ex.cons (Ex1.assign (d := .int 15) (Ev.of_eq (Ev.methS (id := "str.find") (Ev.name (by (repeat' (with_reducible first | exact upd_eq | assumption | refine upd_ne (by kernel_rfl!) ?_)))) (EvS.cons Ev.str EvS.nil (by kernel_rfl!)) CallR.find PySem.F.slot_str_find PySem.F.type_str_find (by kernel_rfl!) (by kernel_rfl!) (by kernel_rfl!) (by kernel_rfl!)) (by rw [f1])) (by (first | (refine Wr.loc ?_ ?_ ?_ <;> kernel_rfl!) | (refine Wr.cell ?_ ?_ ?_ <;> kernel_rfl!))) (seqR_next ?_) (by kernel_rfl!))
  refine Ex.cons (Ex1.ite (b := false) (EvT.of_eq (EvT.cmp (Ev.name (by (repeat' (with_reducible first | exact upd_eq | assumption | refine upd_ne (by kernel_rfl!) ?_)))) Ev.int Cmp.lt (by kernel_rfl!)) (by decide)) (fun q => by cases q) fun _ => Ex.nil (seqR_next ?_))
  refine Ex.cons (Ex1.assign (d := .int ((20 + ds.length : Nat) : Int)) (Ev.of_eq (Ev.methS (id := "str.find") (Ev.name (by (repeat' (with_reducible first | exact upd_eq | assumption | refine upd_ne (by kernel_rfl!) ?_)))) (EvS.cons Ev.str (EvS.cons (Ev.of_eq (d' := .int 16) (Ev.bin (Ev.name (by (repeat' (with_reducible first | exact upd_eq | assumption | refine upd_ne (by kernel_rfl!) ?_)))) Ev.int Bin.add) rfl) EvS.nil (by kernel_rfl!)) (by kernel_rfl!)) CallR.find3 PySem.F.slot_str_find PySem.F.type_str_find (by kernel_rfl!) (by kernel_rfl!) (by kernel_rfl!) (by kernel_rfl!)) (by rw [f2])) (by (first | (refine Wr.loc ?_ ?_ ?_ <;> kernel_rfl!) | (refine Wr.cell ?_ ?_ ?_ <;> kernel_rfl!))) (seqR_next ?_) (by kernel_rfl!))
  refine Ex.cons (Ex1.ite (b := false) (EvT.of_eq (EvT.cmp (Ev.name (by (repeat' (with_reducible first | exact upd_eq | assumption | refine upd_ne (by kernel_rfl!) ?_)))) Ev.int Cmp.lt (by kernel_rfl!)) (decide_eq_false (Int.not_lt.mpr (Int.natCast_nonneg _)))) (fun q => by cases q) fun _ => Ex.nil (seqR_next ?_))
  refine Ex.cons (Ex1.ite (b := false) (EvT.of_eq (EvT.cmp (Ev.itemS (i := 16) (c := m) (Ev.name (by (repeat' (with_reducible first | exact upd_eq | assumption | refine upd_ne (by kernel_rfl!) ?_)))) (Ev.of_eq (Ev.bin (Ev.name (by (repeat' (with_reducible first | exact upd_eq | assumption | refine upd_ne (by kernel_rfl!) ?_)))) Ev.int Bin.add) rfl) (by decide) (by decide) g1 (by kernel_rfl!)) (Ev.itemS (i := ((19 + ds.length : Nat) : Int)) (c := m) (Ev.name (by (repeat' (with_reducible first | exact upd_eq | assumption | refine upd_ne (by kernel_rfl!) ?_)))) (Ev.of_eq (Ev.bin (Ev.name (by (repeat' (with_reducible first | exact upd_eq | assumption | refine upd_ne (by kernel_rfl!) ?_)))) Ev.int Bin.sub) (by congr 1; rw [show 20 + ds.length = 19 + ds.length + 1 from Nat.add_right_comm 19 1 _]; exact cast_pred _)) (Int.natCast_nonneg _) (Int.lt_of_le_of_lt (Int.ofNat_le.mpr (Nat.add_le_add_left hdl 19)) (by decide)) (by rw [Int.toNat_natCast]; exact g2) (by kernel_rfl!)) Cmp.neS (by kernel_rfl!)) (bne_self_eq_false _)) (fun q => by cases q) fun _ => Ex.nil (seqR_next ?_))
  refine Ex.cons (Ex1.assign (d := .lst (strL [⟨#[]⟩, ⟨#[]⟩, ⟨#[]⟩, ⟨ds.toArray⟩, ⟨#[]⟩])) (Ev.of_eq (Ev.methS (id := "str.split") (x := ⟨([m, m, m] ++ ds ++ [m]).toArray⟩) (Ev.of_eq (Ev.sliceS (a := some 16) (b := some ((20 + ds.length : Nat) : Int)) (Ev.name (by (repeat' (with_reducible first | exact upd_eq | assumption | refine upd_ne (by kernel_rfl!) ?_)))) (EvP.some (Ev.of_eq (Ev.bin (Ev.name (by (repeat' (with_reducible first | exact upd_eq | assumption | refine upd_ne (by kernel_rfl!) ?_)))) Ev.int Bin.add) rfl)) (EvP.some (Ev.name (by (repeat' (with_reducible first | exact upd_eq | assumption | refine upd_ne (by kernel_rfl!) ?_))))) hsz) (by rw [s2])) (EvS.cons (Ev.itemS (i := 16) (c := m) (Ev.name (by (repeat' (with_reducible first | exact upd_eq | assumption | refine upd_ne (by kernel_rfl!) ?_)))) (Ev.of_eq (Ev.bin (Ev.name (by (repeat' (with_reducible first | exact upd_eq | assumption | refine upd_ne (by kernel_rfl!) ?_)))) Ev.int Bin.add) rfl) (by decide) (by decide) g1 (by kernel_rfl!)) EvS.nil (by kernel_rfl!)) (CallR.split ?k1 ?k2 (by rfl) ?k3) PySem.F.slot_str_split PySem.F.type_str_split (by kernel_rfl!) (by kernel_rfl!) (by kernel_rfl!) (by kernel_rfl!)) (by rw [spl])) (by (first | (refine Wr.loc ?_ ?_ ?_ <;> kernel_rfl!) | (refine Wr.cell ?_ ?_ ?_ <;> kernel_rfl!))) (seqR_next ?_) (by kernel_rfl!))
  case k1 =>
    have a1 : (([m, m, m] ++ ds ++ [m] : List Nat).toArray.all (· < 256)) = true := by
      rw [Array.all_eq_true']
      intro c hc
      have := hinn c (by simpa using hc)
      exact decide_eq_true (Nat.lt_trans this.2 (by decide))
    have k1 : Builtin.Str.strKind ⟨([m, m, m] ++ ds ++ [m]).toArray⟩ = 1 := if_pos a1
    have k2 : Builtin.Str.strKind ⟨#[m]⟩ = 1 := if_pos (by simpa using Nat.lt_trans (mark_ok hm).2.2 (by decide : 128 < 256))
    rw [k1, k2, sizeStr, hil, decide_eq_false (by show ¬ 4 + ds.length < 1; exact Nat.not_lt.mpr (Nat.le_trans (by decide) (Nat.le_add_right 4 _)))]; rfl
  case k2 =>
    rcases StrLaws.occ_head ⟨([m, m, m] ++ ds ++ [m]).toArray⟩ ⟨#[m]⟩ ((⟨([m, m, m] ++ ds ++ [m]).toArray⟩ : Str).length + 1) (Nat.le_add_left 1 _) with ⟨_, hn⟩ | ⟨i, r, e, _⟩
    · exact absurd ((StrLaws.subAt_one _ m 0).mpr rfl) (hn 0)
    · rw [e]; rfl
  case k3 => rw [sizeStr, hil]; exact Nat.le_trans (Nat.le_trans (Nat.add_le_add_right (Nat.add_le_add_left hdl 4) 2) (by decide) : 4 + ds.length + 2 ≤ 100) (by decide)
  refine Ex.cons (Ex1.ite (b := false) (EvT.of_eq (EvT.cmp (Ev.lenName (n := 5) S' (by (refine EnvG.mk' ?_ ?_ ?_ <;> kernel_rfl!)) (by kernel_rfl!) (EvL.of (Ev.name (by (repeat' (with_reducible first | exact upd_eq | assumption | refine upd_ne (by kernel_rfl!) ?_))))) rfl (by decide)) Ev.int Cmp.ne (by kernel_rfl!)) rfl) (fun q => by cases q) fun _ => Ex.nil (seqR_next ?_))
  refine Ex.cons (Ex1.assign (d := host) (Ev.itemT (ds := [host, .int 21]) (Ev.name (by (repeat' (with_reducible first | exact upd_eq | assumption | refine upd_ne (by kernel_rfl!) ?_)))) Ev.int (by decide) (by decide) rfl (by kernel_rfl!)) (by (first | (refine Wr.loc ?_ ?_ ?_ <;> kernel_rfl!) | (refine Wr.cell ?_ ?_ ?_ <;> kernel_rfl!))) (seqR_next ?_) (by kernel_rfl!))
  refine Ex.cons (Ex1.assign (d := .int q) (Ev.callT (b_int S' (by (refine EnvG.mk' ?_ ?_ ?_ <;> kernel_rfl!)) (by kernel_rfl!)) (ds := [.str (Str.ofString (toString q))]) (EvS.cons (Ev.item (EvL.of (Ev.name (by (repeat' (with_reducible first | exact upd_eq | assumption | refine upd_ne (by kernel_rfl!) ?_))))) Ev.int (by decide) (by decide) (by rw [hds]; rfl) (by kernel_rfl!)) EvS.nil (by kernel_rfl!)) (CallR.intS h0q hq) (by kernel_rfl!)) (by (first | (refine Wr.loc ?_ ?_ ?_ <;> kernel_rfl!) | (refine Wr.cell ?_ ?_ ?_ <;> kernel_rfl!))) (seqR_next ?_) (by kernel_rfl!))
  exact Ex.cons (Ex1.ret (Ev.tup (EvS.cons (Ev.name (by (repeat' (with_reducible first | exact upd_eq | assumption | refine upd_ne (by kernel_rfl!) ?_)))) (EvS.cons (Ev.name (by (repeat' (with_reducible first | exact upd_eq | assumption | refine upd_ne (by kernel_rfl!) ?_)))) EvS.nil (by kernel_rfl!)) (by kernel_rfl!)) (Nat.le_of_ble_eq_true rfl)) (seqR_ret rfl))

/-! part P3 -/
/-! sums of weights over coalitions -/
noncomputable def wsum (ws : List Int) (b : Nat → Bool) : Nat → Int
  | 0 => 0
  | k + 1 => wsum ws b k + if b k then ws.getD k 0 else 0
theorem wsum_congr {ws : List Int} {b c : Nat → Bool} : ∀ n, (∀ j, j < n → b j = c j) → wsum ws b n = wsum ws c n
  | 0, _ => rfl
  | n + 1, h => by
    unfold wsum
    rw [wsum_congr n (fun j hj => h j (by omega)), h n (by omega)]
theorem wsum_zero {ws : List Int} {b : Nat → Bool} : ∀ n, (∀ j, j < n → b j = false) → wsum ws b n = 0
  | 0, _ => rfl
  | n + 1, h => by
    unfold wsum
    rw [wsum_zero n (fun j hj => h j (by omega)), h n (by omega)]; rfl
noncomputable def PosW (ws : List Int) : Prop := ∀ k, 0 ≤ ws.getD k 0
theorem wsum_nonneg {ws : List Int} (hp : PosW ws) (b : Nat → Bool) : ∀ n, 0 ≤ wsum ws b n
  | 0 => Int.le_refl _
  | n + 1 => by
    unfold wsum
    have := wsum_nonneg hp b n
    have := hp n
    split <;> omega
theorem wsum_mono {ws : List Int} (hp : PosW ws) {b c : Nat → Bool} : ∀ n, (∀ j, j < n → b j = true → c j = true) → wsum ws b n ≤ wsum ws c n
  | 0, _ => Int.le_refl _
  | n + 1, h => by
    unfold wsum
    have h1 := wsum_mono hp n (fun j hj => h j (by omega))
    have h2 := hp n
    have h3 := h n (by omega)
    cases hb : b n with
    | true => rw [h3 hb]; simp only [if_true]; omega
    | false => simp only [Bool.false_eq_true, if_false]; split <;> omega
theorem wsum_add {ws : List Int} {b c d : Nat → Bool} : ∀ n, (∀ j, j < n → d j = (b j || c j) ∧ (b j && c j) = false) → wsum ws d n = wsum ws b n + wsum ws c n
  | 0, _ => rfl
  | n + 1, h => by
    unfold wsum
    rw [wsum_add n (fun j hj => h j (by omega))]
    obtain ⟨h1, h2⟩ := h n (by omega)
    rw [h1]
    cases hb : b n <;> cases hc : c n <;> simp_all <;> omega
theorem wsum_all (ws : List Int) : wsum ws (fun _ => true) ws.length = ws.sum := by
  have : ∀ k, k ≤ ws.length → wsum ws (fun _ => true) k = (ws.take k).sum := by
    intro k
    induction k with
    | zero => intro _; simp [wsum]
    | succ k ih =>
      intro hk
      unfold wsum
      rw [ih (by omega), if_pos rfl, List.take_add_one, List.getElem?_eq_getElem (by omega), List.getD_eq_getElem?_getD, List.getElem?_eq_getElem (by omega)]
      rw [List.sum_append]; simp [Option.toList]
  rw [this ws.length (Nat.le_refl _), List.take_length]
/-- two coalitions with none in both weigh the whole at most -/
theorem wsum_disj {ws : List Int} (hp : PosW ws) {b c : Nat → Bool} (h : ∀ j, j < ws.length → (b j && c j) = false) : wsum ws b ws.length + wsum ws c ws.length ≤ ws.sum := by
  rw [← wsum_add (d := fun j => b j || c j) ws.length (fun j hj => ⟨rfl, h j hj⟩), ← wsum_all]
  exact wsum_mono hp ws.length fun _ _ _ => rfl
theorem wsum_compl {ws : List Int} {b : Nat → Bool} : wsum ws b ws.length + wsum ws (fun j => !b j) ws.length = ws.sum := by
  rw [← wsum_add (d := fun _ => true) ws.length (fun j hj => by cases b j <;> exact ⟨rfl, rfl⟩), wsum_all]
theorem wsum_one {ws : List Int} (hp : PosW ws) {b : Nat → Bool} {k n : Nat} (hk : k < n) (hb : b k = true) : ws.getD k 0 ≤ wsum ws b n := by
  induction n with
  | zero => omega
  | succ n ih =>
    unfold wsum
    by_cases e : k = n
    · subst e; rw [hb, if_pos rfl]; have := wsum_nonneg hp b k; omega
    · have := ih (by omega)
      have := hp n
      split <;> omega
/-- one voter taken out -/
theorem wsum_out {ws : List Int} {b : Nat → Bool} {k n : Nat} (hk : k < n) (hb : b k = true) : wsum ws b n = wsum ws (fun j => b j && decide (j ≠ k)) n + ws.getD k 0 := by
  induction n with
  | zero => omega
  | succ n ih =>
    unfold wsum
    by_cases e : k = n
    · subst e
      rw [hb, wsum_congr (c := fun j => b j && decide (j ≠ k)) k (fun j hj => by simp; omega)]
      simp
    · rw [ih (by omega)]
      have : decide (n ≠ k) = true := decide_eq_true (by omega)
      rw [this, Bool.and_true]
      omega
/-! a coalition's place in the list of sums -/
theorem sums_at (ws : List Int) (b : Nat → Bool) : ∀ k, k ≤ ws.length → (sumsF (ws.take k))[maskOf b k]? = some (wsum ws b k) ∧ (sumsF (ws.take k)).length = 2 ^ k
  | 0, _ => by simp [sumsF, maskOf, wsum]
  | k + 1, h => by
    obtain ⟨h1, h2⟩ := sums_at ws b k (by omega)
    have hw : ws[k]? = some ws[k] := List.getElem?_eq_getElem (by omega)
    have e := sumsF_take ws hw
    have hg : ws.getD k 0 = ws[k] := by rw [List.getD_eq_getElem?_getD, hw]; rfl
    refine ⟨?_, ?_⟩
    · rw [e]
      unfold maskOf wsum
      have hlt := maskOf_lt b k
      cases hb : b k with
      | true =>
        rw [if_pos rfl, if_pos rfl, List.getElem?_append_right (by rw [h2]; omega), h2, Nat.add_sub_cancel, List.getElem?_map, h1, hg]; rfl
      | false =>
        rw [if_neg Bool.false_ne_true, if_neg Bool.false_ne_true, Nat.add_zero, Int.add_zero, List.getElem?_append_left (by rw [h2]; exact hlt)]
        exact h1
    · rw [e, List.length_append, List.length_map, h2, Nat.pow_succ]; omega
theorem wins_at (ws : List Int) (b : Nat → Bool) (q : Int) : ((sumsF ws).map fun s => decide (q ≤ s)).getD (maskOf b ws.length) false = decide (q ≤ wsum ws b ws.length) := by
  have := (sums_at ws b ws.length (Nat.le_refl _)).1
  rw [List.take_length] at this
  rw [List.getD_eq_getElem?_getD, List.getElem?_map, this]; rfl
theorem maskOf_bit (b : Nat → Bool) : ∀ k j, (maskOf b k).testBit j = (decide (j < k) && b j)
  | 0, j => by simp [maskOf]
  | k + 1, j => by
    unfold maskOf
    have hlt := maskOf_lt b k
    cases hb : b k with
    | true =>
      rw [if_pos rfl, Nat.add_comm]
      rcases Nat.lt_trichotomy j k with h | h | h
      · rw [Nat.testBit_two_pow_add_gt h, maskOf_bit b k j]
        simp [h, Nat.lt_succ_of_lt h]
      · subst h
        rw [Nat.testBit_two_pow_add_eq, Nat.testBit_lt_two_pow hlt]
        simp [hb]
      · rw [Nat.testBit_lt_two_pow (Nat.lt_of_lt_of_le (by omega : 2 ^ k + maskOf b k < 2 ^ (k + 1)) (Nat.pow_le_pow_right (by decide) h))]
        simp; omega
    | false =>
      rw [if_neg Bool.false_ne_true, Nat.add_zero, maskOf_bit b k j]
      by_cases e : j = k
      · subst e; simp [hb]
      · have : decide (j < k + 1) = decide (j < k) := by simp; omega
        rw [this]
theorem maskOf_sum (b : Nat → Bool) : ∀ k, (((List.range k).filter b).map fun x => 2 ^ x).sum = maskOf b k
  | 0 => rfl
  | k + 1 => by
    rw [List.range_succ, List.filter_append, List.map_append, List.sum_append, maskOf_sum b k, maskOf]
    cases hb : b k <;> simp [hb]

/-! part P4 -/
noncomputable abbrev natI (l : List Nat) : List Int := l.map fun x : Nat => (x : Int)
theorem natI_getD (l : List Nat) (i : Nat) : (natI l).getD i 0 = ((l.getD i 0 : Nat) : Int) := by
  rw [List.getD_eq_getElem?_getD, List.getElem?_map, List.getD_eq_getElem?_getD]
  cases l[i]? <;> rfl
noncomputable def motN (n m : Nat) : List Nat := (List.range n).filter fun y => m.testBit y
theorem motF_eq (n m : Nat) : motF n (m : Int) = motN n m := by
  unfold motF motN
  apply List.filter_congr
  intro y _
  rw [show ((0 : Int) + (y : Int)) = (y : Int) by omega]
  exact bit_int m y
theorem bitAnd_nat (a b : Nat) : Builtin.bitAnd (a : Int) (b : Int) = ((a &&& b : Nat) : Int) := by
  unfold Builtin.bitAnd
  rw [decide_eq_true (Int.natCast_nonneg a), decide_eq_true (Int.natCast_nonneg b)]
  rfl
theorem and_ne {a m : Nat} : (Builtin.bitAnd (a : Int) (m : Int) != 0) = true ↔ ∃ x, a.testBit x = true ∧ m.testBit x = true := by
  rw [bitAnd_nat]
  constructor
  · intro h
    have h0 : a &&& m ≠ 0 := fun e => by rw [e] at h; exact absurd h (by decide)
    obtain ⟨x, hx⟩ := Nat.exists_testBit_of_ne_zero h0
    rw [Nat.testBit_and, Bool.and_eq_true] at hx
    exact ⟨x, hx⟩
  · rintro ⟨x, h1, h2⟩
    have : (a &&& m).testBit x = true := by rw [Nat.testBit_and, h1, h2]; rfl
    have h0 : a &&& m ≠ 0 := fun e => by rw [e, Nat.zero_testBit] at this; cases this
    exact bne_iff_ne.mpr fun e => h0 (by omega)
theorem roundsAt_mem (bs : List Int) (d : Int) : ∀ i, d ∈ roundsAt bs i ↔ ∃ j, j < i ∧ okF bs (1 + (j : Int)) = true ∧ d = ((motF bs.length (1 + (j : Int))).length : Int)
  | 0 => by simp [roundsAt]
  | i + 1 => by
    have ih := roundsAt_mem bs d i
    unfold roundsAt
    by_cases h : okF bs (1 + (i : Int)) = true
    · rw [if_pos h, List.mem_append, ih, List.mem_singleton]
      constructor
      · rintro (⟨j, a, b, c⟩ | e)
        · exact ⟨j, by omega, b, c⟩
        · exact ⟨i, by omega, h, e⟩
      · rintro ⟨j, a, b, c⟩
        by_cases e : j = i
        · subst e; exact .inr c
        · exact .inl ⟨j, by omega, b, c⟩
    · rw [if_neg h, ih]
      constructor
      · rintro ⟨j, a, b, c⟩; exact ⟨j, by omega, b, c⟩
      · rintro ⟨j, a, b, c⟩
        by_cases e : j = i
        · subst e; exact absurd b h
        · exact ⟨j, by omega, b, c⟩
/-- a packing of the voters into the boxes 1 .. s -/
noncomputable def Packs (ws : List Int) (room : Int) (s : Nat) (f : Nat → Nat) : Prop :=
  (∀ j, j < ws.length → 1 ≤ f j ∧ f j ≤ s) ∧ ∀ t, 1 ≤ t → t ≤ s → wsum ws (fun j => f j == t) ws.length ≤ room
section
variable {ws : List Int} {orders : List (List Nat)} {q : Int} {size : Nat}
noncomputable def winsF (ws : List Int) (q : Int) : List Bool := (sumsF ws).map fun s => decide (q ≤ s)
noncomputable def beats (ws : List Int) (orders : List (List Nat)) (q : Int) (x y : Nat) : Bool := decide (q ≤ wsum ws (fun j => bef (orders.getD j []) x y) ws.length)
theorem beatN_eq (hl : orders.length = ws.length) (ok : ∀ o ∈ orders, OrdOk size o) {y : Nat} (hy : y < size) : beatN orders (winsF ws q) size y = maskOf (fun x => beats ws orders q x y) size := by
  unfold beatN
  rw [← maskOf_sum]
  congr 2
  apply List.filter_congr
  intro x hx
  have hxs := List.mem_range.mp hx
  rw [abK_get hxs hy _ (Nat.le_refl _) ok, hl]
  exact wins_at ws _ q
theorem beaten_len (wins : List Bool) : (beatenF orders wins size).length = size := by unfold beatenF; rw [List.length_map, List.length_range]
theorem beaten_at (hl : orders.length = ws.length) (ok : ∀ o ∈ orders, OrdOk size o) {y : Nat} (hy : y < size) : (beatenF orders (winsF ws q) size).getD y 0 = maskOf (fun x => beats ws orders q x y) size := by
  unfold beatenF
  rw [List.getD_eq_getElem?_getD, List.getElem?_map, List.getElem?_range hy]
  exact beatN_eq hl ok hy
theorem ok_iff (hl : orders.length = ws.length) (ok : ∀ o ∈ orders, OrdOk size o) (m : Nat) : okF (natI (beatenF orders (winsF ws q) size)) (m : Int) = true ↔ ∀ y, y < size → m.testBit y = true → ∃ x, x < size ∧ m.testBit x = true ∧ beats ws orders q x y = true := by
  unfold okF
  rw [List.length_map, beaten_len, motF_eq, List.all_eq_true]
  simp only [List.mem_map, id]
  constructor
  · intro h y hy hb
    have := h _ ⟨y, List.mem_filter.mpr ⟨List.mem_range.mpr hy, hb⟩, rfl⟩
    rw [natI_getD, beaten_at hl ok hy, and_ne] at this
    obtain ⟨x, h1, h2⟩ := this
    rw [maskOf_bit, Bool.and_eq_true] at h1
    exact ⟨x, of_decide_eq_true h1.1, h2, h1.2⟩
  · rintro h b ⟨y, hy, rfl⟩
    obtain ⟨h1, h2⟩ := List.mem_filter.mp hy
    have hys := List.mem_range.mp h1
    obtain ⟨x, a, b, c⟩ := h y hys h2
    rw [natI_getD, beaten_at hl ok hys, and_ne]
    exact ⟨x, by rw [maskOf_bit, decide_eq_true a, c]; rfl, b⟩
theorem min_of (f : Nat → Nat) : ∀ l : List Nat, l ≠ [] → ∃ y ∈ l, ∀ x ∈ l, f y ≤ f x
  | [], h => absurd rfl h
  | [a], _ => ⟨a, List.mem_cons_self, fun x hx => by rw [List.mem_singleton.mp hx]; exact Nat.le_refl _⟩
  | a :: b :: r, _ => by
    obtain ⟨y, h1, h2⟩ := min_of f (b :: r) (by simp)
    rcases Nat.le_total (f a) (f y) with h | h
    · refine ⟨a, List.mem_cons_self, fun x hx => ?_⟩
      rcases List.mem_cons.mp hx with rfl | hx
      · exact Nat.le_refl _
      · exact Nat.le_trans h (h2 x hx)
    · refine ⟨y, List.mem_cons_of_mem _ h1, fun x hx => ?_⟩
      rcases List.mem_cons.mp hx with rfl | hx
      · exact h
      · exact h2 x hx
/-- Nakamura: a round of motions packs the voters, one box a motion -/
theorem round_packs (hp : PosW ws) (hl : orders.length = ws.length) (ok : ∀ o ∈ orders, OrdOk size o) {m : Nat} (h0 : 1 ≤ m) (hm : m < 2 ^ size)
    (h : okF (natI (beatenF orders (winsF ws q) size)) (m : Int) = true) : ∃ f, Packs ws (ws.sum - q) (motN size m).length f := by
  rw [ok_iff hl ok] at h
  have hne : motN size m ≠ [] := by
    obtain ⟨k, h1, h2⟩ := bit_below h0 hm
    exact List.ne_nil_of_mem (List.mem_filter.mpr ⟨List.mem_range.mpr h1, h2⟩)
  have top : ∀ j, ∃ y ∈ motN size m, ∀ x ∈ motN size m, (orders.getD j []).idxOf y ≤ (orders.getD j []).idxOf x := fun j => min_of _ _ hne
  refine ⟨fun j => (motN size m).idxOf (top j).choose + 1, fun j _ => ⟨Nat.succ_le_succ (Nat.zero_le _), ?_⟩, fun t h1 h2 => ?_⟩
  · exact List.idxOf_lt_length_iff.mpr (top j).choose_spec.1
  · have hlt : t - 1 < (motN size m).length := by omega
    have hym : (motN size m)[t - 1] ∈ motN size m := List.getElem_mem hlt
    generalize hy : (motN size m)[t - 1] = y at hym
    obtain ⟨hy1, hy2⟩ := List.mem_filter.mp hym
    obtain ⟨x, hx1, hx2, hx3⟩ := h y (List.mem_range.mp hy1) hy2
    have hxm : x ∈ motN size m := List.mem_filter.mpr ⟨List.mem_range.mpr hx1, hx2⟩
    have hq : q ≤ wsum ws (fun j => bef (orders.getD j []) x y) ws.length := of_decide_eq_true hx3
    have hd := wsum_disj hp (b := fun j => (motN size m).idxOf (top j).choose + 1 == t) (c := fun j => bef (orders.getD j []) x y) fun j _ => by
      cases hb : ((motN size m).idxOf (top j).choose + 1 == t) with
      | false => rfl
      | true =>
        have e : (motN size m).idxOf (top j).choose = t - 1 := by have := eq_of_beq hb; omega
        have e2 : (top j).choose = y := by
          have := List.getElem_idxOf (List.idxOf_lt_length_iff.mpr (top j).choose_spec.1)
          rw [← this, ← hy]; simp only [e]
        have := (top j).choose_spec.2 x hxm
        rw [e2] at this
        rw [Bool.true_and]
        unfold bef
        exact decide_eq_false (by omega)
    show wsum ws (fun j => (motN size m).idxOf (top j).choose + 1 == t) ws.length ≤ _
    omega
end

/-! part P5 -/
theorem argBest_prop (bt : Nat → Nat → Bool) (irr : ∀ i, bt i i = false) (tr : ∀ i j l, bt i j = true → bt j l = true → bt i l = true) : ∀ k i, i ≤ k → bt i (argBest bt k) = false
  | 0, i, hi => by
    rw [Nat.le_zero.mp hi]
    exact irr 0
  | k + 1, i, hi => by
    have ih := argBest_prop bt irr tr k
    unfold argBest
    cases hb : bt (k + 1) (argBest bt k) with
    | true =>
      rw [if_pos rfl]
      by_cases e : i = k + 1
      · rw [e]; exact irr _
      · cases hc : bt i (k + 1) with
        | false => rfl
        | true =>
          have := tr i (k + 1) (argBest bt k) hc hb
          rw [ih i (Nat.le_of_lt_succ (Nat.lt_of_le_of_ne hi e))] at this; cases this
    | false =>
      rw [if_neg Bool.false_ne_true]
      by_cases e : i = k + 1
      · rw [e]; exact hb
      · exact ih i (Nat.le_of_lt_succ (Nat.lt_of_le_of_ne hi e))
theorem lexlt_irr : ∀ l, lexlt l l = false
  | [] => rfl
  | x :: xs => by rw [lexlt, if_pos (beq_self_eq_true x)]; exact lexlt_irr xs
theorem lexlt_tr : ∀ {s t u : List Int}, lexlt s t = true → lexlt t u = true → lexlt s u = true
  | x :: xs, y :: ys, z :: zs, h1, h2 => by
    unfold lexlt at h1 h2 ⊢
    by_cases a : x = y
    · subst a
      rw [if_pos (beq_self_eq_true x)] at h1
      by_cases b : x = z
      · subst b
        rw [if_pos (beq_self_eq_true x)] at h2 ⊢
        exact lexlt_tr h1 h2
      · rw [if_neg (fun q => b (eq_of_beq q))] at h2 ⊢; exact h2
    · rw [if_neg (fun q => a (eq_of_beq q))] at h1
      have h1 := of_decide_eq_true h1
      by_cases b : y = z
      · subst b
        rw [if_neg (fun q => a (eq_of_beq q))]; exact decide_eq_true h1
      · rw [if_neg (fun q => b (eq_of_beq q))] at h2
        have h3 := Int.lt_trans h1 (of_decide_eq_true h2)
        rw [if_neg (fun q => Int.ne_of_lt h3 (eq_of_beq q))]; exact decide_eq_true h3
theorem lex_false {s t : W3} (h : lexlt (gW s) (gW t) = false) : t.1 < s.1 ∨ (t.1 = s.1 ∧ t.2.1 ≤ s.2.1) := by
  unfold gW lexlt lexlt at h
  by_cases a : s.1 = t.1
  · rw [if_pos (beq_iff_eq.mpr a)] at h
    by_cases b : s.2.1 = t.2.1
    · exact .inr ⟨a.symm, Int.le_of_eq b.symm⟩
    · rw [if_neg (fun q => b (eq_of_beq q))] at h
      exact .inr ⟨a.symm, Int.not_lt.mp (of_decide_eq_false h)⟩
  · rw [if_neg (fun q => a (eq_of_beq q))] at h
    exact .inl ((Int.lt_or_gt_of_ne a).resolve_left (of_decide_eq_false h))
theorem leastW_le {l : List W3} {t : W3} (ht : t ∈ l) : (leastW l).1 < t.1 ∨ ((leastW l).1 = t.1 ∧ (leastW l).2.1 ≤ t.2.1) := by
  have gd : ∀ i, i < l.length → (l.map gW).getD i [] = gW (l.getD i (0, 0, 0)) := fun i hi => by
    rw [List.getD_eq_getElem?_getD, List.getElem?_map, List.getElem?_eq_getElem hi, List.getD_eq_getElem?_getD, List.getElem?_eq_getElem hi]; rfl
  obtain ⟨i, hi, rfl⟩ := List.getElem_of_mem ht
  have hl : (l.map gW).length - 1 < l.length := by rw [List.length_map]; exact Nat.sub_one_lt (Nat.ne_of_gt (Nat.zero_lt_of_lt hi))
  have key := argBest_prop (fun i j => lexlt ((l.map gW).getD i []) ((l.map gW).getD j [])) (fun _ => lexlt_irr _) (fun _ _ _ => lexlt_tr) ((l.map gW).length - 1) i (by rw [List.length_map]; exact Nat.le_sub_one_of_lt hi)
  replace key : lexlt ((l.map gW).getD i []) ((l.map gW).getD (leastAt (l.map gW)) []) = false := key
  have hlt : leastAt (l.map gW) < l.length := Nat.lt_of_le_of_lt (argBest_le _ _) hl
  have e2 : l.getD i (0, 0, 0) = l[i] := by rw [List.getD_eq_getElem?_getD, List.getElem?_eq_getElem hi]; rfl
  rw [gd i hi, gd _ hlt, e2] at key
  exact lex_false key
theorem bit_out : ∀ m : Fin 32, ∀ k : Fin 5, ∀ j : Fin 5, m.val.testBit k.val = true → (m.val - 2 ^ k.val).testBit j.val = (m.val.testBit j.val && decide (j.val ≠ k.val)) := by decide +kernel
section
variable {ws : List Int} {room : Int}
/-- what stands at a mask -/
noncomputable def ent (ws : List Int) (room : Int) (m : Nat) : W3 := (bestAt ws room m).getD m (0, 0, 0)
theorem ent_at {m j : Nat} (h : m ≤ j) : (bestAt ws room j).getD m (0, 0, 0) = ent ws room m := by
  unfold ent
  rw [List.getD_eq_getElem?_getD, List.getD_eq_getElem?_getD, bestAt_pre ws room (Nat.le_refl m) h]
theorem ent_zero : ent ws room 0 = (1, 0, 0) := rfl
theorem ent_ways {m : Nat} (h0 : 1 ≤ m) : ent ws room m = leastW (waysAt ws room (bestAt ws room (m - 1)) m ws.length) := by
  obtain ⟨i, rfl⟩ : ∃ i, m = i + 1 := ⟨m - 1, (Nat.sub_add_cancel h0).symm⟩
  unfold ent
  rw [bestAt, List.getD_eq_getElem?_getD, List.getElem?_append_right (by rw [bestAt_len]; exact Nat.le_refl _), bestAt_len, Nat.sub_self, Nat.add_comm 1 i]
  rfl
theorem ent_mem {m : Nat} (h0 : 1 ≤ m) (hm : m < 2 ^ ws.length) : ∃ k, k < ws.length ∧ m.testBit k = true ∧ ent ws room m = wayB ws room (ent ws room (m - 2 ^ k)) k := by
  have h := leastW_mem (waysAt_pos ws room (bestAt ws room (m - 1)) h0 hm)
  rw [← ent_ways h0] at h
  obtain ⟨k, a, b, c⟩ := (waysAt_mem _ _ _ _ _ _).mp h
  have h2 : 1 ≤ 2 ^ k := Nat.one_le_two_pow
  rw [ent_at (Nat.sub_le_sub_left h2 m)] at c
  exact ⟨k, a, b, c⟩
theorem ent_le {m k : Nat} (h0 : 1 ≤ m) (hk : k < ws.length) (hb : m.testBit k = true) : (ent ws room m).1 < (wayB ws room (ent ws room (m - 2 ^ k)) k).1 ∨ ((ent ws room m).1 = (wayB ws room (ent ws room (m - 2 ^ k)) k).1 ∧ (ent ws room m).2.1 ≤ (wayB ws room (ent ws room (m - 2 ^ k)) k).2.1) := by
  have h2 : 1 ≤ 2 ^ k := Nat.one_le_two_pow
  have hm := (waysAt_mem ws room (bestAt ws room (m - 1)) m ws.length _).mpr ⟨k, hk, hb, rfl⟩
  rw [ent_at (Nat.sub_le_sub_left h2 m)] at hm
  rw [ent_ways h0]
  exact leastW_le hm
theorem ent_pos : ∀ m, m < 2 ^ ws.length → 1 ≤ (ent ws room m).1 := by
  intro m
  induction m using Nat.strongRecOn with
  | ind m ih =>
    intro hm
    by_cases h0 : m = 0
    · subst h0; rw [ent_zero]; decide
    · obtain ⟨k, a, b, c⟩ := ent_mem (ws := ws) (room := room) (Nat.pos_of_ne_zero h0) hm
      have h2 : 1 ≤ 2 ^ k := Nat.one_le_two_pow
      have := ih (m - 2 ^ k) (Nat.sub_lt (Nat.pos_of_ne_zero h0) (Nat.two_pow_pos k)) (Nat.lt_of_le_of_lt (Nat.sub_le _ _) hm)
      rw [c]
      unfold wayB
      split
      · exact this
      · exact Int.le_trans this (Int.le_add_one (Int.le_refl _))
/-- no packing takes fewer boxes -/
theorem best_le (hp : PosW ws) (hn : ws.length ≤ 5) : ∀ m, m < 2 ^ ws.length → ∀ s, 1 ≤ s → ∀ f : Nat → Nat, (∀ j, j < ws.length → m.testBit j = true → 1 ≤ f j ∧ f j ≤ s) →
    (∀ t, 1 ≤ t → t ≤ s → wsum ws (fun j => m.testBit j && f j == t) ws.length ≤ room) →
    (ent ws room m).1 < s ∨ ((ent ws room m).1 = s ∧ (ent ws room m).2.1 ≤ wsum ws (fun j => m.testBit j && f j == s) ws.length) := by
  intro m
  induction m using Nat.strongRecOn with
  | ind m ihm =>
  intro hm s
  induction s with
  | zero => intro h; exact absurd h (by decide)
  | succ s ihs =>
  intro _ f hf hl
  by_cases h0 : m = 0
  · subst h0
    rw [ent_zero]
    have hz := wsum_nonneg hp (fun j => Nat.testBit 0 j && f j == s + 1) ws.length
    show (1 : Int) < ((s + 1 : Nat) : Int) ∨ ((1 : Int) = ((s + 1 : Nat) : Int) ∧ (0 : Int) ≤ _)
    rcases Nat.eq_zero_or_pos s with q | q
    · subst q; exact .inr ⟨rfl, hz⟩
    · exact .inl (Int.ofNat_lt.mpr (Nat.succ_lt_succ q))
  · by_cases hA : ∃ k, k < ws.length ∧ m.testBit k = true ∧ f k = s + 1
    · obtain ⟨k, hk, hb, hfk⟩ := hA
      have h2 : 1 ≤ 2 ^ k := Nat.one_le_two_pow
      have hge : 2 ^ k ≤ m := Nat.ge_two_pow_of_testBit hb
      have hm32 : m < 32 := Nat.lt_of_lt_of_le hm (Nat.pow_le_pow_right (by decide : 0 < 2) hn)
      have bo : ∀ j, j < ws.length → (m - 2 ^ k).testBit j = (m.testBit j && decide (j ≠ k)) := fun j hj => bit_out ⟨m, hm32⟩ ⟨k, Nat.lt_of_lt_of_le hk hn⟩ ⟨j, Nat.lt_of_lt_of_le hj hn⟩ hb
      have ih := ihm (m - 2 ^ k) (Nat.sub_lt (Nat.pos_of_ne_zero h0) (Nat.two_pow_pos k)) (Nat.lt_of_le_of_lt (Nat.sub_le _ _) hm) (s + 1) (Nat.le_add_left 1 s) f (fun j hj hbj => hf j hj (by rw [bo j hj, Bool.and_eq_true] at hbj; exact hbj.1)) (fun t h1 h2 => Int.le_trans (wsum_mono hp _ fun j hj q => by
        rw [Bool.and_eq_true, bo j hj, Bool.and_eq_true] at q
        rw [Bool.and_eq_true]; exact ⟨q.1.1, q.2⟩) (hl t h1 h2))
      have hout := wsum_out (ws := ws) (b := fun j => m.testBit j && f j == s + 1) (k := k) hk (by simp [hb, hfk])
      have e : wsum ws (fun j => (m.testBit j && f j == s + 1) && decide (j ≠ k)) ws.length = wsum ws (fun j => (m - 2 ^ k).testBit j && f j == s + 1) ws.length := wsum_congr _ fun j hj => by
        rw [bo j hj]; cases m.testBit j <;> cases decide (j ≠ k) <;> simp
      rw [e] at hout
      have hload := hl (s + 1) (Nat.le_add_left 1 s) (Nat.le_refl _)
      have hle := ent_le (ws := ws) (room := room) (Nat.pos_of_ne_zero h0) hk hb
      have hnn := wsum_nonneg hp (fun j => (m - 2 ^ k).testBit j && f j == s + 1) ws.length
      have hwk := hp k
      generalize ent ws room (m - 2 ^ k) = t at ih hle
      unfold wayB at hle
      generalize wsum ws (fun j => (m - 2 ^ k).testBit j && f j == s + 1) ws.length = X at ih hout hnn
      generalize wsum ws (fun j => m.testBit j && f j == s + 1) ws.length = L at hout hload ⊢
      clear hl hf ihm ihs bo e
      by_cases hfit : t.2.1 + ws.getD k 0 ≤ room
      · rw [if_pos hfit] at hle
        dsimp only at hle
        clear hfit hload hwk hnn
        rcases hle with h | ⟨h, h'⟩
        · exact .inl (ih.elim (fun q => Int.lt_trans h q) fun q => q.1 ▸ h)
        · rcases ih with q | ⟨q, q'⟩
          · exact .inl (h ▸ q)
          · exact .inr ⟨h.trans q, by clear h q; omega⟩
      · rw [if_neg hfit] at hle
        dsimp only at hle
        have q : t.1 + 1 ≤ ((s + 1 : Nat) : Int) := Int.add_one_le_of_lt (ih.elim id fun q => absurd q.2 (by clear hle ih; omega))
        clear ih hfit hload hwk
        rcases hle with h | ⟨h, h'⟩
        · exact .inl (Int.lt_of_lt_of_le h q)
        · rcases Int.lt_or_eq_of_le q with a | a
          · exact .inl (h ▸ a)
          · exact .inr ⟨h.trans a, by clear h a q; omega⟩
    · have hlt : ∀ j, j < ws.length → m.testBit j = true → 1 ≤ f j ∧ f j ≤ s := fun j hj hb => by
        have h := hf j hj hb
        exact ⟨h.1, Nat.le_of_lt_succ (Nat.lt_of_le_of_ne h.2 fun e => hA ⟨j, hj, hb, e⟩)⟩
      obtain ⟨k, hk, hb⟩ := bit_below (Nat.pos_of_ne_zero h0) hm
      have h1 := hlt k hk hb
      exact .inl ((ihs (Nat.le_trans h1.1 h1.2) f hlt (fun t h1 h2 => hl t h1 (Nat.le_succ_of_le h2))).elim (fun q => Int.lt_trans q (Int.ofNat_lt.mpr (Nat.lt_succ_self s))) fun q => q.1 ▸ Int.ofNat_lt.mpr (Nat.lt_succ_self s))
theorem full_bit : ∀ n : Fin 6, ∀ j : Fin 5, j.val < n.val → (2 ^ n.val - 1).testBit j.val = true := by decide +kernel
theorem packs_le (hp : PosW ws) (hn : ws.length ≤ 5) {s : Nat} (hs : 1 ≤ s) {f : Nat → Nat} (h : Packs ws room s f) : (ent ws room (2 ^ ws.length - 1)).1 ≤ s := by
  have hpw : 1 ≤ 2 ^ ws.length := Nat.one_le_two_pow
  have := best_le (room := room) hp hn (2 ^ ws.length - 1) (Nat.sub_one_lt (Nat.ne_of_gt hpw)) s hs f (fun j hj _ => h.1 j hj) (fun t h1 h2 => Int.le_trans (wsum_mono hp _ fun j hj q => by rw [Bool.and_eq_true] at q; exact q.2) (h.2 t h1 h2))
  exact this.elim Int.le_of_lt fun q => Int.le_of_eq q.1
/-- what the way back lays is a packing -/
theorem place_ok (hp : PosW ws) (hn : ws.length ≤ 5) (hr : 0 ≤ room) (hw : ∀ k, k < ws.length → ws.getD k 0 ≤ room) {N : Nat} (hN : N < 2 ^ ws.length) : ∀ m, m ≤ N → ∀ fuel, m ≤ fuel → ∀ w : List Int, w.length = ws.length →
    (placeF (bestAt ws room N) fuel m w).length = ws.length ∧ (∀ j, j < ws.length → m.testBit j = false → (placeF (bestAt ws room N) fuel m w).getD j 0 = w.getD j 0) ∧
    (∀ j, j < ws.length → m.testBit j = true → 1 ≤ (placeF (bestAt ws room N) fuel m w).getD j 0 ∧ (placeF (bestAt ws room N) fuel m w).getD j 0 ≤ (ent ws room m).1) ∧
    (∀ t : Int, wsum ws (fun j => m.testBit j && (placeF (bestAt ws room N) fuel m w).getD j 0 == t) ws.length ≤ room) ∧
    wsum ws (fun j => m.testBit j && (placeF (bestAt ws room N) fuel m w).getD j 0 == (ent ws room m).1) ws.length = (ent ws room m).2.1 ∧
    (1 ≤ m → ∃ j, j < ws.length ∧ m.testBit j = true ∧ (placeF (bestAt ws room N) fuel m w).getD j 0 = (ent ws room m).1) := by
  intro m
  induction m using Nat.strongRecOn with
  | ind m ihm =>
  intro hmN fuel hfu w hwl
  by_cases h0 : m = 0
  · subst h0
    have e : placeF (bestAt ws room N) fuel 0 w = w := by cases fuel <;> rfl
    rw [e]
    refine ⟨hwl, fun _ _ _ => rfl, fun j _ q => absurd q (by rw [Nat.zero_testBit]; decide), fun t => ?_, ?_, fun q => absurd q (by decide)⟩
    · rw [wsum_zero _ fun j _ => by rw [Nat.zero_testBit]; rfl]; exact hr
    · rw [wsum_zero _ fun j _ => by rw [Nat.zero_testBit]; rfl]; rfl
  · have hm : m < 2 ^ ws.length := Nat.lt_of_le_of_lt hmN hN
    obtain ⟨k, hk, hb, hent⟩ := ent_mem (ws := ws) (room := room) (Nat.pos_of_ne_zero h0) hm
    have h2 : 1 ≤ 2 ^ k := Nat.one_le_two_pow
    have hge : 2 ^ k ≤ m := Nat.ge_two_pow_of_testBit hb
    have hm32 : m < 32 := Nat.lt_of_lt_of_le hm (Nat.pow_le_pow_right (by decide : 0 < 2) hn)
    have bo : ∀ j, j < ws.length → (m - 2 ^ k).testBit j = (m.testBit j && decide (j ≠ k)) := fun j hj => bit_out ⟨m, hm32⟩ ⟨k, Nat.lt_of_lt_of_le hk hn⟩ ⟨j, Nat.lt_of_lt_of_le hj hn⟩ hb
    obtain ⟨fuel, rfl⟩ : ∃ g, fuel = g + 1 := ⟨fuel - 1, (Nat.sub_add_cancel (Nat.le_trans (Nat.pos_of_ne_zero h0) hfu)).symm⟩
    have hlast : (ent ws room m).2.2 = k := by rw [hent, wayB_last]
    have e : placeF (bestAt ws room N) (fuel + 1) m w = placeF (bestAt ws room N) fuel (m - 2 ^ k) (w.set k (ent ws room m).1) := by
      rw [placeF, if_neg h0, ent_at hmN, hlast]
    rw [e]
    obtain ⟨i1, i2, i3, i4, i5, _⟩ := ihm (m - 2 ^ k) (Nat.sub_lt (Nat.pos_of_ne_zero h0) (Nat.two_pow_pos k)) (Nat.le_trans (Nat.sub_le _ _) hmN) fuel (Nat.le_of_lt_succ (Nat.lt_of_lt_of_le (Nat.sub_lt (Nat.pos_of_ne_zero h0) (Nat.two_pow_pos k)) hfu)) (w.set k (ent ws room m).1) (by rw [List.length_set]; exact hwl)
    generalize placeF (bestAt ws room N) fuel (m - 2 ^ k) (w.set k (ent ws room m).1) = r at i1 i2 i3 i4 i5
    have hrk : r.getD k 0 = (ent ws room m).1 := by
      rw [i2 k hk (by rw [bo k hk]; simp), List.getD_eq_getElem?_getD, List.getElem?_set_self (by rw [hwl]; exact hk)]; rfl
    have hpos := ent_pos (ws := ws) (room := room) m hm
    have hpos' := ent_pos (ws := ws) (room := room) (m - 2 ^ k) (Nat.lt_of_le_of_lt (Nat.sub_le _ _) hm)
    have hge' : (ent ws room (m - 2 ^ k)).1 ≤ (ent ws room m).1 := by
      rw [hent]; unfold wayB; split
      · exact Int.le_refl _
      · exact Int.le_add_one (Int.le_refl _)
    have hin : ∀ j, j < ws.length → m.testBit j = true → j ≠ k → (m - 2 ^ k).testBit j = true := fun j hj hbj hne => by rw [bo j hj, hbj, decide_eq_true hne]; rfl
    have hload : ∀ t : Int, t = (ent ws room m).1 → wsum ws (fun j => m.testBit j && r.getD j 0 == t) ws.length = wsum ws (fun j => (m - 2 ^ k).testBit j && r.getD j 0 == t) ws.length + ws.getD k 0 := fun t ht => by
      rw [wsum_out (k := k) hk (by show (m.testBit k && r.getD k 0 == t) = true; rw [hb, hrk, ht, Bool.true_and]; exact beq_self_eq_true _)]
      congr 1
      refine wsum_congr _ fun j hj => ?_
      rw [bo j hj]; cases m.testBit j <;> cases decide (j ≠ k) <;> simp
    have hload' : ∀ t : Int, t ≠ (ent ws room m).1 → wsum ws (fun j => m.testBit j && r.getD j 0 == t) ws.length = wsum ws (fun j => (m - 2 ^ k).testBit j && r.getD j 0 == t) ws.length := fun t ht => by
      refine wsum_congr _ fun j hj => ?_
      rw [bo j hj]
      by_cases ej : j = k
      · subst ej
        rw [hrk]
        simp [Ne.symm ht]
      · rw [decide_eq_true ej]; simp
    have hsum : wsum ws (fun j => m.testBit j && r.getD j 0 == (ent ws room m).1) ws.length = (ent ws room m).2.1 ∧ (ent ws room m).2.1 ≤ room := by
      rw [hload _ rfl]
      have hwk := hw k hk
      by_cases hfit : (ent ws room (m - 2 ^ k)).2.1 + ws.getD k 0 ≤ room
      · have ew : ent ws room m = ((ent ws room (m - 2 ^ k)).1, (ent ws room (m - 2 ^ k)).2.1 + ws.getD k 0, k) := by rw [hent]; exact if_pos hfit
        rw [ew]
        dsimp only
        rw [i5]
        exact ⟨rfl, hfit⟩
      · have ew : ent ws room m = ((ent ws room (m - 2 ^ k)).1 + 1, ws.getD k 0, k) := by rw [hent]; exact if_neg hfit
        rw [ew]
        dsimp only
        rw [wsum_zero _ fun j hj => by
          cases hbj : (m - 2 ^ k).testBit j with
          | false => rfl
          | true =>
            have := (i3 j hj hbj).2
            rw [Bool.true_and]
            exact beq_false_of_ne (Int.ne_of_lt (Int.lt_add_one_of_le this)), Int.zero_add]
        exact ⟨rfl, hwk⟩
    refine ⟨i1, fun j hj hbj => ?_, fun j hj hbj => ?_, fun t => ?_, hsum.1, fun _ => ⟨k, hk, hb, hrk⟩⟩
    · have hne : j ≠ k := fun e => by rw [e, hb] at hbj; cases hbj
      rw [i2 j hj (by rw [bo j hj, hbj]; rfl), List.getD_eq_getElem?_getD, List.getElem?_set_ne (Ne.symm hne), List.getD_eq_getElem?_getD]
    · by_cases ej : j = k
      · rw [ej, hrk]; exact ⟨hpos, Int.le_refl _⟩
      · have := i3 j hj (hin j hj hbj ej)
        exact ⟨this.1, Int.le_trans this.2 hge'⟩
    · by_cases ht : t = (ent ws room m).1
      · rw [ht, hsum.1]; exact hsum.2
      · rw [hload' t ht]; exact i4 t
end

/-! part P6 -/
theorem foldMax_go : ∀ (r : List Int) (a : Int), (r.foldl (fun m x => if m < x then x else m) a = a ∨ r.foldl (fun m x => if m < x then x else m) a ∈ r) ∧ a ≤ r.foldl (fun m x => if m < x then x else m) a ∧ ∀ x ∈ r, x ≤ r.foldl (fun m x => if m < x then x else m) a
  | [], a => ⟨.inl rfl, Int.le_refl _, fun x hx => by cases hx⟩
  | b :: r, a => by
    rw [List.foldl_cons]
    obtain ⟨h1, h2, h3⟩ := foldMax_go r (if a < b then b else a)
    have e : a ≤ (if a < b then b else a) ∧ b ≤ (if a < b then b else a) := by split <;> omega
    refine ⟨?_, Int.le_trans e.1 h2, fun x hx => ?_⟩
    · rcases h1 with h1 | h1
      · rw [h1]
        by_cases q : a < b
        · rw [if_pos q]; exact .inr List.mem_cons_self
        · rw [if_neg q]; exact .inl rfl
      · exact .inr (List.mem_cons_of_mem _ h1)
    · rcases List.mem_cons.mp hx with rfl | hx
      · exact Int.le_trans e.2 h2
      · exact h3 x hx
theorem foldMax_spec {l : List Int} (h : l ≠ []) : foldMax l ∈ l ∧ ∀ x ∈ l, x ≤ foldMax l := by
  cases l with
  | nil => exact absurd rfl h
  | cons a r =>
    obtain ⟨h1, h2, h3⟩ := foldMax_go r a
    refine ⟨?_, fun x hx => ?_⟩
    · rcases h1 with h1 | h1
      · show r.foldl _ a ∈ _; rw [h1]; exact List.mem_cons_self
      · exact List.mem_cons_of_mem _ h1
    · rcases List.mem_cons.mp hx with rfl | hx
      · exact h2
      · exact h3 x hx
theorem foldMin_go : ∀ (r : List Int) (a : Int), (r.foldl (fun m x => if x < m then x else m) a = a ∨ r.foldl (fun m x => if x < m then x else m) a ∈ r) ∧ r.foldl (fun m x => if x < m then x else m) a ≤ a ∧ ∀ x ∈ r, r.foldl (fun m x => if x < m then x else m) a ≤ x
  | [], a => ⟨.inl rfl, Int.le_refl _, fun x hx => by cases hx⟩
  | b :: r, a => by
    rw [List.foldl_cons]
    obtain ⟨h1, h2, h3⟩ := foldMin_go r (if b < a then b else a)
    have e : (if b < a then b else a) ≤ a ∧ (if b < a then b else a) ≤ b := by split <;> omega
    refine ⟨?_, Int.le_trans h2 e.1, fun x hx => ?_⟩
    · rcases h1 with h1 | h1
      · rw [h1]
        by_cases q : b < a
        · rw [if_pos q]; exact .inr List.mem_cons_self
        · rw [if_neg q]; exact .inl rfl
      · exact .inr (List.mem_cons_of_mem _ h1)
    · rcases List.mem_cons.mp hx with rfl | hx
      · exact Int.le_trans h2 e.2
      · exact h3 x hx
theorem foldMin_last {l : List Int} {b : Int} (h : ∀ x ∈ l, b ≤ x) : foldMin (l ++ [b]) = b := by
  cases l with
  | nil => rfl
  | cons a r =>
    show (r ++ [b]).foldl (fun m x => if x < m then x else m) a = b
    obtain ⟨h1, h2, h3⟩ := foldMin_go (r ++ [b]) a
    have hb := h3 b (by simp)
    have ha := h a List.mem_cons_self
    rcases h1 with h1 | h1
    · omega
    · rw [List.mem_append, List.mem_singleton] at h1
      rcases h1 with h1 | h1
      · have := h _ (List.mem_cons_of_mem _ h1); omega
      · omega
noncomputable def ordB (B box : Nat) : List Nat := (List.range B).map fun k => (box + k) % B
theorem ordB_fin : ∀ B : Fin 6, ∀ box : Fin 6, 1 ≤ B.val → (ordB B.val box.val).length = B.val ∧ (∀ x ∈ ordB B.val box.val, x < B.val) ∧ (ordB B.val box.val).Nodup ∧ ∀ x : Fin 6, x.val < B.val → x.val ∈ ordB B.val box.val := by decide +kernel
theorem ordB_ok {B box : Nat} (h1 : 1 ≤ B) (h5 : B ≤ 5) (hb : box ≤ 5) : OrdOk B (ordB B box) := by
  obtain ⟨a, b, c, d⟩ := ordB_fin ⟨B, by omega⟩ ⟨box, by omega⟩ h1
  exact ⟨a, b, c, fun x hx => d ⟨x, by omega⟩ hx⟩
theorem bef_fin : ∀ B : Fin 6, ∀ box : Fin 6, ∀ y : Fin 6, 1 ≤ B.val → 1 ≤ box.val → box.val ≤ B.val → y.val < B.val → bef (ordB B.val box.val) ((y.val + B.val - 1) % B.val) y.val = !(box.val == if y.val = 0 then B.val else y.val) := by decide +kernel
theorem full_fin : ∀ B : Fin 6, ∀ m : Fin 32, m.val < 2 ^ B.val → B.val ≤ (motN B.val m.val).length → m.val = 2 ^ B.val - 1 := by decide +kernel
theorem mot_full : ∀ B : Fin 6, (motN B.val (2 ^ B.val - 1)).length = B.val := by decide +kernel
theorem toNat_beq {x : Int} {t : Nat} (h : 1 ≤ x) : (x == (t : Int)) = (x.toNat == t) := by
  by_cases ex : x = (t : Int)
  · rw [ex, Int.toNat_natCast]; simp
  · rw [beq_false_of_ne ex, beq_false_of_ne (by omega)]
section
variable {ws : List Int} {orders : List (List Nat)} {q : Int} {size : Nat}
theorem pos_of (h : ∀ w ∈ ws, 0 ≤ w) : PosW ws := fun k => by
  rw [List.getD_eq_getElem?_getD]
  cases e : ws[k]? with
  | none => exact Int.le_refl _
  | some w => exact h w (List.mem_of_getElem? e)
theorem round_mask (hl : orders.length = ws.length) (ok : ∀ o ∈ orders, OrdOk size o) (hp : PosW ws) {d : Int} (h : d ∈ roundsF (natI (beatenF orders (winsF ws q) size))) : ∃ s f, 1 ≤ s ∧ d = ((s : Nat) : Int) ∧ Packs ws (ws.sum - q) s f := by
  unfold roundsF at h
  obtain ⟨j, h1, h2, h3⟩ := (roundsAt_mem _ _ _).mp h
  rw [List.length_map, beaten_len] at h1 h3
  rw [show (1 : Int) + (j : Int) = ((1 + j : Nat) : Int) by push_cast; rfl] at h2 h3
  have hpw : 1 ≤ 2 ^ size := Nat.one_le_two_pow
  obtain ⟨f, hf⟩ := round_packs (q := q) hp hl ok (m := 1 + j) (by omega) (by omega) h2
  refine ⟨(motN size (1 + j)).length, f, ?_, by rw [h3, motF_eq], hf⟩
  obtain ⟨k, a, b⟩ := bit_below (by omega : 1 ≤ 1 + j) (by omega : 1 + j < 2 ^ size)
  exact List.length_pos_of_mem (List.mem_filter.mpr ⟨List.mem_range.mpr a, b⟩)
/-- where one voter fits into no box there is no round -/
theorem law_no (hl : orders.length = ws.length) (ok : ∀ o ∈ orders, OrdOk size o) (hp : PosW ws) (hn0 : 0 < ws.length) (h : ws.sum - q < foldMax ws) : roundsF (natI (beatenF orders (winsF ws q) size)) = [] := by
  apply List.eq_nil_iff_forall_not_mem.mpr
  intro d hd
  obtain ⟨s, f, h1, _, hf⟩ := round_mask hl ok hp hd
  have hne : ws ≠ [] := List.ne_nil_of_length_pos hn0
  obtain ⟨k, hk, e⟩ := List.getElem_of_mem (foldMax_spec hne).1
  have := hf.2 (f k) (hf.1 k hk).1 (hf.1 k hk).2
  have h2 := wsum_one (ws := ws) hp (b := fun j => f j == f k) (k := k) hk (beq_self_eq_true _)
  rw [List.getD_eq_getElem?_getD, List.getElem?_eq_getElem hk, Option.getD_some, e] at h2
  omega
structure LawYes (ws : List Int) (q : Int) (orders : List (List Nat)) (size : Nat) (B : Nat) : Prop where
  len : (boxesF ws (ws.sum - q)).length = ws.length
  max : foldMax (boxesF ws (ws.sum - q)) = (B : Int)
  one : 1 ≤ B
  five : B ≤ 5
  box : ∀ x ∈ boxesF ws (ws.sum - q), 1 ≤ x ∧ x ≤ (B : Int)
  drawn : foldMin (roundsF (natI (beatenF orders (winsF ws q) size)) ++ [(B : Int)]) = (B : Int)
  built : roundsF (natI (beatenF ((boxesF ws (ws.sum - q)).map fun x => ordB B x.toNat) (winsF ws q) B)) = [(B : Int)]
theorem cpl {a b s q : Int} (h1 : a + b = s) (h2 : a ≤ s - q) : q ≤ b := by omega
theorem one_toNat {x : Int} (h : 1 ≤ x) : 1 ≤ x.toNat := Int.lt_toNat.mpr (Int.lt_of_lt_of_le (by decide) h)
theorem law_yes (hl : orders.length = ws.length) (ok : ∀ o ∈ orders, OrdOk size o) (hp : PosW ws) (hn0 : 0 < ws.length) (hn : ws.length ≤ 5) (h : ¬ ws.sum - q < foldMax ws) : ∃ B, LawYes ws q orders size B := by
  have hne : ws ≠ [] := List.ne_nil_of_length_pos hn0
  have hwk : ∀ k, k < ws.length → ws.getD k 0 ≤ ws.sum - q := fun k hk => by
    have := (foldMax_spec hne).2 (ws.getD k 0) (by rw [List.getD_eq_getElem?_getD, List.getElem?_eq_getElem hk]; exact List.getElem_mem hk)
    exact Int.le_trans this (Int.not_lt.mp h)
  have hroom : 0 ≤ ws.sum - q := Int.le_trans (hp 0) (hwk 0 hn0)
  have hpw : 2 ≤ 2 ^ ws.length := Nat.pow_le_pow_right (n := 2) (by decide) hn0
  have hfl : 2 ^ ws.length - 1 < 2 ^ ws.length := Nat.sub_one_lt (Nat.ne_of_gt (Nat.two_pow_pos _))
  have hbx : boxesF ws (ws.sum - q) = placeF (bestAt ws (ws.sum - q) (2 ^ ws.length - 1)) (2 ^ ws.length - 1) (2 ^ ws.length - 1) (List.replicate ws.length 0) := if_neg h
  obtain ⟨p1, p2, p3, p4, p5, p6⟩ := place_ok (room := ws.sum - q) hp hn hroom hwk (N := 2 ^ ws.length - 1) hfl (2 ^ ws.length - 1) (Nat.le_refl _) (2 ^ ws.length - 1) (Nat.le_refl _) (List.replicate ws.length 0) List.length_replicate
  rw [← hbx] at p1 p2 p3 p4 p5 p6
  have hpos := ent_pos (ws := ws) (room := ws.sum - q) (2 ^ ws.length - 1) hfl
  have hfull : ∀ j, j < ws.length → (2 ^ ws.length - 1).testBit j = true := fun j hj => full_bit ⟨ws.length, Nat.lt_succ_of_le hn⟩ ⟨j, Nat.lt_of_lt_of_le hj hn⟩ hj
  obtain ⟨B, hB⟩ : ∃ B : Nat, (ent ws (ws.sum - q) (2 ^ ws.length - 1)).1 = (B : Int) := ⟨_, (Int.toNat_of_nonneg (Int.le_trans (by decide) hpos)).symm⟩
  rw [hB] at p3 p6 hpos
  generalize hr : boxesF ws (ws.sum - q) = r at p1 p2 p3 p4 p5 p6
  have h1B : 1 ≤ B := Int.ofNat_le.mp (show ((1 : Nat) : Int) ≤ (B : Int) from hpos)
  have hBn : B ≤ ws.length := by
    have := packs_le (room := ws.sum - q) hp hn (s := ws.length) hn0 (f := fun j => j + 1) ⟨fun j hj => ⟨Nat.le_add_left 1 j, hj⟩, fun t h1 h2 => by
      obtain ⟨u, rfl⟩ : ∃ u, t = u + 1 := ⟨t - 1, (Nat.sub_add_cancel h1).symm⟩
      rw [wsum_out (b := fun j => j + 1 == u + 1) (k := u) h2 (beq_self_eq_true (u + 1)), wsum_zero _ fun j _ => by
        show ((j + 1 == u + 1) && decide (j ≠ u)) = false
        by_cases e : j = u
        · rw [decide_eq_false (fun q => q e), Bool.and_false]
        · rw [beq_false_of_ne fun q => e (Nat.succ.inj q)]; rfl, Int.zero_add]
      exact hwk u h2⟩
    rw [hB] at this; exact Int.ofNat_le.mp this
  have hB5 : B ≤ 5 := Nat.le_trans hBn hn
  have hB6 : B < 6 := Nat.lt_succ_of_le hB5
  have hbox : ∀ j, j < ws.length → 1 ≤ r.getD j 0 ∧ r.getD j 0 ≤ (B : Int) := fun j hj => p3 j hj (hfull j hj)
  have hmem : ∀ x ∈ r, 1 ≤ x ∧ x ≤ (B : Int) := fun x hx => by
    obtain ⟨j, hj, rfl⟩ := List.getElem_of_mem hx
    have := hbox j (p1 ▸ hj)
    rw [List.getD_eq_getElem?_getD, List.getElem?_eq_getElem hj] at this
    exact this
  have hmax : foldMax r = (B : Int) := by
    have hrne : r ≠ [] := List.ne_nil_of_length_pos (by rw [p1]; exact hn0)
    obtain ⟨a, b⟩ := foldMax_spec hrne
    obtain ⟨j, hj, _, e⟩ := p6 (Nat.le_sub_one_of_lt hpw)
    have h1 := (hmem _ a).2
    have h2 := b (r.getD j 0) (getD_mem0 (by rw [p1]; exact hj))
    exact Int.le_antisymm h1 (e ▸ h2)
  have hload : ∀ t : Int, wsum ws (fun j => r.getD j 0 == t) ws.length ≤ ws.sum - q := fun t => by
    rw [wsum_congr (c := fun j => (2 ^ ws.length - 1).testBit j && r.getD j 0 == t) ws.length fun j hj => by rw [hfull j hj, Bool.true_and]]
    exact p4 t
  have least : ∀ {s : Nat} {f : Nat → Nat}, 1 ≤ s → Packs ws (ws.sum - q) s f → (B : Int) ≤ (s : Int) := fun h1 hf => by rw [← hB]; exact packs_le hp hn h1 hf
  have hbl : (r.map fun x => ordB B x.toNat).length = ws.length := by rw [List.length_map, p1]
  have hbok : ∀ o ∈ r.map (fun x => ordB B x.toNat), OrdOk B o := fun o ho => by
    obtain ⟨x, hx, rfl⟩ := List.mem_map.mp ho
    have := hmem x hx
    exact ordB_ok h1B hB5 (Nat.le_trans (Int.toNat_le.mpr this.2) hB5)
  have hB32 : 2 ^ B ≤ 32 := Nat.pow_le_pow_right (by decide : 0 < 2) hB5
  have hB2 : 2 ≤ 2 ^ B := Nat.pow_le_pow_right (n := 2) (by decide) h1B
  refine ⟨B, ⟨hr ▸ p1, hr ▸ hmax, h1B, hB5, hr ▸ hmem, foldMin_last fun d hd => ?_, ?_⟩⟩
  · obtain ⟨s, f, h1, e, hf⟩ := round_mask hl ok hp hd
    rw [e]; exact least h1 hf
  · rw [hr]
    unfold roundsF
    rw [List.length_map, beaten_len]
    obtain ⟨M, hM⟩ : ∃ M, 2 ^ B - 1 = M + 1 := ⟨2 ^ B - 1 - 1, (Nat.sub_add_cancel (Nat.le_sub_one_of_lt hB2)).symm⟩
    rw [hM]
    have hnil : roundsAt (natI (beatenF (r.map fun x => ordB B x.toNat) (winsF ws q) B)) M = [] := by
      apply List.eq_nil_iff_forall_not_mem.mpr
      intro d hd
      obtain ⟨j, a, b, _⟩ := (roundsAt_mem _ _ _).mp hd
      rw [show (1 : Int) + (j : Int) = ((1 + j : Nat) : Int) by push_cast; rfl] at b
      have hjB : 1 + j < 2 ^ B := by
        rw [Nat.add_comm]
        exact Nat.lt_of_lt_of_le (Nat.succ_lt_succ a) (Nat.le_trans (Nat.le_of_eq hM.symm) (Nat.sub_le _ _))
      obtain ⟨f, hf⟩ := round_packs (q := q) hp hbl hbok (m := 1 + j) (Nat.le_add_right 1 j) hjB b
      have hlen : 1 ≤ (motN B (1 + j)).length := by
        obtain ⟨k, a, b⟩ := bit_below (Nat.le_add_right 1 j) hjB
        exact List.length_pos_of_mem (List.mem_filter.mpr ⟨List.mem_range.mpr a, b⟩)
      have hle := least hlen hf
      have := full_fin ⟨B, hB6⟩ ⟨1 + j, Nat.lt_of_lt_of_le hjB hB32⟩ hjB (Int.ofNat_le.mp hle)
      have e : 1 + j = 2 ^ B - 1 := this
      exact Nat.ne_of_lt a (Nat.succ.inj ((Nat.add_comm j 1).trans (e.trans hM)))
    have hok : okF (natI (beatenF (r.map fun x => ordB B x.toNat) (winsF ws q) B)) (1 + (M : Int)) = true := by
      rw [show (1 : Int) + (M : Int) = ((2 ^ B - 1 : Nat) : Int) by rw [hM]; exact Int.add_comm _ _, ok_iff hbl hbok]
      intro y hy _
      have hprev : (y + B - 1) % B < B := Nat.mod_lt _ h1B
      refine ⟨(y + B - 1) % B, hprev, full_bit ⟨B, hB6⟩ ⟨_, Nat.lt_of_lt_of_le hprev hB5⟩ hprev, decide_eq_true ?_⟩
      rw [wsum_congr (c := fun j => !(r.getD j 0 == (((if y = 0 then B else y : Nat)) : Int))) ws.length fun j hj => ?_]
      · have h1 := wsum_compl (ws := ws) (b := fun j => r.getD j 0 == (((if y = 0 then B else y : Nat)) : Int))
        exact cpl h1 (hload (((if y = 0 then B else y : Nat)) : Int))
      · have hj' : j < r.length := by rw [p1]; exact hj
        have hb := hbox j hj
        have e : (r.map fun x => ordB B x.toNat).getD j [] = ordB B (r.getD j 0).toNat := by
          rw [List.getD_eq_getElem?_getD, List.getElem?_map, List.getD_eq_getElem?_getD, List.getElem?_eq_getElem hj']; rfl
        rw [e]
        have hbB : (r.getD j 0).toNat ≤ B := Int.toNat_le.mpr hb.2
        have hb2 := bef_fin ⟨B, hB6⟩ ⟨(r.getD j 0).toNat, Nat.lt_of_le_of_lt hbB hB6⟩ ⟨y, Nat.lt_trans hy hB6⟩ h1B (one_toNat hb.1) hbB hy
        rw [show bef (ordB B (r.getD j 0).toNat) ((y + B - 1) % B) y = !((r.getD j 0).toNat == if y = 0 then B else y) from hb2]
        rw [toNat_beq hb.1]
    rw [roundsAt, if_pos hok, hnil, List.length_map, beaten_len, List.nil_append, show (1 : Int) + (M : Int) = ((2 ^ B - 1 : Nat) : Int) by rw [hM]; exact Int.add_comm _ _, motF_eq]
    have := mot_full ⟨B, hB6⟩
    rw [show (motN B (2 ^ B - 1)).length = B from this]
where
  getD_mem0 {l : List Int} {i : Nat} (h : i < l.length) : l.getD i 0 ∈ l := by
    rw [List.getD_eq_getElem?_getD, List.getElem?_eq_getElem h]; exact List.getElem_mem h
end

/-! part P7 -/
noncomputable def lampT (n : Nat) : T3 := ((ptF (n : Int) 0 * (((n : Int).fdiv 8).fmod 4 + 1)).toNat, (ptF (n : Int) 8 * (((n : Int).fdiv 8).fmod 4 + 1)).toNat, (ptF (n : Int) 16 * (((n : Int).fdiv 8).fmod 4 + 1)).toNat)
theorem lampD_eq (n : Nat) : lampD (n : Int) = t3D (lampT n) := by simp only [lampD, lampL, t3D, lampT, List.map]
noncomputable def le16 (t : T3) : Bool := decide (t.1 ≤ 16) && decide (t.2.1 ≤ 16) && decide (t.2.2 ≤ 16)
theorem voter_fin : ∀ n : Fin 768, decide (0 ≤ weightF (n.val : Int)) && decide (weightF (n.val : Int) ≤ 1600) && decide (w3 (lampT n.val) = weightF (n.val : Int)) && le16 (lampT n.val) = true := by decide +kernel
theorem voter {n : Nat} (h : n < 768) : 0 ≤ weightF (n : Int) ∧ weightF (n : Int) ≤ 1600 ∧ w3 (lampT n) = weightF (n : Int) ∧ Le3 16 (lampT n) := by
  have := voter_fin ⟨n, h⟩
  simp only [Bool.and_eq_true, decide_eq_true_eq, le16] at this
  exact ⟨this.1.1.1, this.1.1.2, this.1.2, this.2.1.1, this.2.1.2, this.2.2⟩
theorem w3_add (t o : T3) : w3 (t3add t o) = w3 o + w3 t := by
  unfold w3 t3add; dsimp only; push_cast; omega
theorem lights_go : ∀ (ts s : List T3), (ts.foldl (fun s t => s ++ s.map (t3add t)) s).map w3 = (ts.map w3).foldl (fun s w => s ++ s.map (· + w)) (s.map w3)
  | [], s => rfl
  | t :: ts, s => by
    rw [List.foldl_cons, List.map_cons, List.foldl_cons, lights_go ts]
    congr 1
    rw [List.map_append, List.map_map, List.map_map]
    congr 1
    apply List.map_congr_left
    intro o _
    exact w3_add t o
theorem lights_eq (ts : List T3) : (sumsT ts).map w3 = sumsF (ts.map w3) := lights_go ts [(0, 0, 0)]
noncomputable def orderN (n : Nat) : List Nat := (orderF (((n / 32 : Nat)) : Int)).map Int.toNat
theorem order_fin : ∀ m : Fin 24, ((orderF ((m.val : Nat) : Int)).map Int.toNat).length = 4 ∧ (∀ x ∈ (orderF ((m.val : Nat) : Int)).map Int.toNat, x < 4) ∧ ((orderF ((m.val : Nat) : Int)).map Int.toNat).Nodup ∧ (∀ x : Fin 4, x.val ∈ (orderF ((m.val : Nat) : Int)).map Int.toNat) ∧ ((orderF ((m.val : Nat) : Int)).map Int.toNat).map (fun x : Nat => (x : Int)) = orderF ((m.val : Nat) : Int) := by decide +kernel
theorem order_ok {n : Nat} (h : n < 768) : OrdOk 4 (orderN n) := by
  obtain ⟨a, b, c, d, _⟩ := order_fin ⟨n / 32, by omega⟩
  exact ⟨a, b, c, fun x hx => d ⟨x, hx⟩⟩
theorem order_int {n : Nat} (h : n < 768) : (orderN n).map (fun x : Nat => (x : Int)) = orderF (((n / 32 : Nat)) : Int) := (order_fin ⟨n / 32, by omega⟩).2.2.2.2

/-! part J1 -/
theorem rep_ints {O : Addr → Prop} {h : Heap} : ∀ {vs : List Value} {xs : List Int}, IntsAre vs xs → RepL O h vs (intL xs)
  | _, _, .nil => .nil
  | _, _, .cons _ _ r => .cons _ _ _ _ (.int _ _) (rep_ints r)
/-- the law's body, met where the call of it stands -/
theorem law_end {prog : Program} {w : World} {s₁ : Shared} {h₁ : Heap} {tk : Nat} {m : Str → Option Value} {fa : Addr} {cdv : Value} {qual : Str} {scope : Scope} {body : List Stmt}
    (F : Fr s₁.heap s₁.heap.objs.size h₁ m) (X : (hd.heap_39 w.params).In s₁.heap) (T : ∃ loose mean mg mb, Top hd.view_39 loose mean mg mb s₁.heap) (hk : scope.kind = .function)
    {x1 x2 : Str} (hcells : cellsFrom (s₁.heap.objs.size + 1) scope.names [] = [(x1, s₁.heap.objs.size + 1 + 1), (x2, s₁.heap.objs.size + 1)]) (hx : decide (x1 = x2) = false)
    (N1 : ∃ c1, h₁.IsCell (s₁.heap.objs.size + 1 + 1) c1) (N2 : ∃ c2, h₁.IsCell (s₁.heap.objs.size + 1) c2)
    {p : Str} {a : Addr} {vs : List Value} {xs : List Int} (hm : m p = some (.ref a)) (hl : s₁.heap.IsList a vs.toArray) (hi : IntsAre vs xs) (hkp : scope.names.lookup p = some .local) (hp1 : decide (p = x1) = false) (hp2 : decide (p = x2) = false) (hdb : (p == ("__debug__" : Str)) = false)
    {qk : Flow → Shared → Prop} {ek : Value → Shared → Prop} (hq : ∀ h' tk', (∀ b o, s₁.heap.get? b = some o → h'.get? b = some o) → qk (.ret (.bool true)) { s₁ with heap := h', toks := tk' })
    (ex : ∀ Γ : G, Site Γ 6 → (∀ a, Γ.O₀ a → ∃ o, Γ.base.get? a = some o) → ∀ σ : Store, σ p = some (.imm (.lst (intL xs))) → Ex Γ (envOfC qual scope Γ.L fa cdv) σ body (fun o => o = .ret (.bool true))) :
    wpAny (model prog w) (callerA.deeper (envOfC qual scope s₁.heap.objs.size fa cdv)) (execs body (envOfC qual scope s₁.heap.objs.size fa cdv)) qk ek { s₁ with heap := h₁, toks := tk } := by
  obtain ⟨c1, N1⟩ := N1
  obtain ⟨c2, N2⟩ := N2
  let Γ : G := { prog := prog, w := w, A := callerA.deeper (envOfC qual scope s₁.heap.objs.size fa cdv), base := s₁.heap, L := s₁.heap.objs.size, O₀ := fun _ => False }
  have S : Site Γ 6 := {
    handled := rfl
    frames := ⟨envOfC qual scope s₁.heap.objs.size fa cdv, [], callerA, s₁.heap, Around.frames_deeper rfl, rfl, hk, below_caller _⟩
    X := X
    T := T
    depth := by show callerA.depth + 1 + 10 * 6 < recursionLimit; decide +kernel
    units := by show callerA.units + 3 + 100 * 6 < cLine; decide +kernel }
  have hcs : (envOfC qual scope s₁.heap.objs.size fa cdv).cells = [(x1, s₁.heap.objs.size + 1 + 1), (x2, s₁.heap.objs.size + 1)] := hcells
  have look : ∀ y c, (envOfC qual scope s₁.heap.objs.size fa cdv).cells.lookup y = some c → (y = x1 ∧ c = s₁.heap.objs.size + 1 + 1) ∨ (y = x2 ∧ c = s₁.heap.objs.size + 1) := fun y c e => by
    rw [hcs, List.lookup_cons] at e
    cases h1 : y == x1 with
    | true => rw [h1] at e; cases e; exact .inl ⟨eq_of_beq h1, rfl⟩
    | false =>
      rw [h1] at e
      rw [List.lookup_cons] at e
      cases h2 : y == x2 with
      | true => rw [h2] at e; cases e; exact .inr ⟨eq_of_beq h2, rfl⟩
      | false => rw [h2] at e; cases e
  have hpc : (envOfC qual scope s₁.heap.objs.size fa cdv).cells.lookup p = none := by
    cases e : (envOfC qual scope s₁.heap.objs.size fa cdv).cells.lookup p with
    | none => rfl
    | some c =>
      rcases look p c e with ⟨q, _⟩ | ⟨q, _⟩
      · exact absurd q (of_decide_eq_false hp1)
      · exact absurd q (of_decide_eq_false hp2)
  have nb : ∀ c, s₁.heap.objs.size ≤ c → s₁.heap.get? c = none := fun c hc => Heap.get?_none_of_le hc
  have hneO : ∀ b o, s₁.heap.get? b = some o → ¬ (b = s₁.heap.objs.size ∨ b = s₁.heap.objs.size + 1 ∨ b = s₁.heap.objs.size + 1 + 1) := fun b o e q => by
    have : s₁.heap.get? b = none := by
      rcases q with rfl | rfl | rfl
      · exact nb _ (Nat.le_refl _)
      · exact nb _ (Nat.le_succ _)
      · exact nb _ (Nat.le_succ_of_le (Nat.le_succ _))
    rw [this] at e; cases e
  have X' : FS Γ (envOfC qual scope s₁.heap.objs.size fa cdv) (fun b => b = s₁.heap.objs.size ∨ b = s₁.heap.objs.size + 1 ∨ b = s₁.heap.objs.size + 1 + 1) (fun y => if y = p then some (.imm (.lst (intL xs))) else none) h₁ := by
    refine ⟨rfl, hk, ?_, fun b hb => hb.elim, m, fun y => if y = x1 then c1 else c2, F, .inl rfl, fun y c e => ?_, fun y y' c e e' => ?_, fun z c e => ?_, fun z c e => ?_, fun z z' d1 d2 b e => ?_⟩
    · rintro b (rfl | rfl | rfl)
      · obtain ⟨o, _, _, e, _⟩ := F.ns; exact ⟨o, e⟩
      · obtain ⟨o, e, _⟩ := N2; exact ⟨o, e⟩
      · obtain ⟨o, e, _⟩ := N1; exact ⟨o, e⟩
    · rcases look y c e with ⟨rfl, rfl⟩ | ⟨rfl, rfl⟩
      · refine ⟨.inr (.inr rfl), (Nat.ne_of_lt (Nat.lt_succ_of_lt (Nat.lt_succ_self _))).symm, nb _ (Nat.le_succ_of_le (Nat.le_succ _)), ?_⟩
        simpa using N1
      · refine ⟨.inr (.inl rfl), (Nat.ne_of_lt (Nat.lt_succ_self _)).symm, nb _ (Nat.le_succ _), ?_⟩
        have : y ≠ x1 := fun q => of_decide_eq_false hx q.symm
        simpa [this] using N2
    · rcases look y c e with ⟨rfl, rfl⟩ | ⟨rfl, rfl⟩
      · rcases look y' _ e' with ⟨rfl, _⟩ | ⟨rfl, q⟩
        · rfl
        · exact absurd q (Nat.succ_ne_self _)
      · rcases look y' _ e' with ⟨rfl, q⟩ | ⟨rfl, _⟩
        · exact absurd q.symm (Nat.succ_ne_self _)
        · rfl
    · by_cases q : z = p
      · subst q; exact ⟨.inl ⟨hkp, hpc⟩, hdb⟩
      · simp [q] at e
    · by_cases q : z = p
      · subst q
        simp at e
        subst e
        refine ⟨.ref a, ?_, ?_⟩
        · unfold valOf; rw [hpc]; exact hm
        · obtain ⟨o, ho, r⟩ := hl
          exact .lst a vs _ (hneO a o ho) ⟨o, F.keep a o ho, r⟩ (rep_ints hi)
      · simp [q] at e
    · by_cases q : z = p
      · simp [q] at e
      · simp [q] at e
  refine wpAny_mono ((ex Γ S (fun a ha => ha.elim) _ (if_pos rfl)).run _ { s₁ with heap := h₁, toks := tk } X') (fun fl s' z => ?_) fun _ _ e => e.elim
  obtain ⟨o, h₂, tk₂, O₂, rfl, rfl, kp, q⟩ := z
  obtain ⟨v, rfl, ⟨m', F'⟩, sub, r⟩ := q.inv
  obtain rfl := r.inv
  exact hq h₂ tk₂ fun b o e => F'.keep b o e

/-! part J3 -/
theorem n_cells (P : Params) : nsIn (hd.heap_39 P) mainGlobals (Str.ofString "_law_cells") = some (some (.ref 93)) := by k_is
theorem keep_cells (P : Params) : keepIn (hd.heap_39 P) (.ref 93) = true := by k_is
theorem n_weight (P : Params) : nsIn (hd.heap_39 P) mainGlobals (Str.ofString "_law_weight") = some (some (.ref 119)) := by k_is
theorem keep_weight (P : Params) : keepIn (hd.heap_39 P) (.ref 119) = true := by k_is
theorem n_sums (P : Params) : nsIn (hd.heap_39 P) mainGlobals (Str.ofString "_law_sums") = some (some (.ref 136)) := by k_is
theorem keep_sums (P : Params) : keepIn (hd.heap_39 P) (.ref 136) = true := by k_is
theorem n_sent (P : Params) : nsIn (hd.heap_39 P) mainGlobals (Str.ofString "_law_sent") = some (some (.ref 100)) := by k_is
theorem keep_sent (P : Params) : keepIn (hd.heap_39 P) (.ref 100) = true := by k_is
theorem n_heard (P : Params) : nsIn (hd.heap_39 P) mainGlobals (Str.ofString "_law_heard") = some (some (.ref 105)) := by k_is
theorem keep_heard (P : Params) : keepIn (hd.heap_39 P) (.ref 105) = true := by k_is
theorem n_lamp (P : Params) : nsIn (hd.heap_39 P) mainGlobals (Str.ofString "_law_lamp") = some (some (.ref 112)) := by k_is
theorem keep_lamp (P : Params) : keepIn (hd.heap_39 P) (.ref 112) = true := by k_is
theorem n_order (P : Params) : nsIn (hd.heap_39 P) mainGlobals (Str.ofString "_law_order") = some (some (.ref 126)) := by k_is
theorem keep_order (P : Params) : keepIn (hd.heap_39 P) (.ref 126) = true := by k_is
theorem n_lights (P : Params) : nsIn (hd.heap_39 P) mainGlobals (Str.ofString "_law_lights") = some (some (.ref 131)) := by k_is
theorem keep_lights (P : Params) : keepIn (hd.heap_39 P) (.ref 131) = true := by k_is
theorem n_beaten (P : Params) : nsIn (hd.heap_39 P) mainGlobals (Str.ofString "_law_beaten") = some (some (.ref 141)) := by k_is
theorem keep_beaten (P : Params) : keepIn (hd.heap_39 P) (.ref 141) = true := by k_is
theorem n_rounds (P : Params) : nsIn (hd.heap_39 P) mainGlobals (Str.ofString "_law_rounds") = some (some (.ref 146)) := by k_is
theorem keep_rounds (P : Params) : keepIn (hd.heap_39 P) (.ref 146) = true := by k_is
theorem n_boxes (P : Params) : nsIn (hd.heap_39 P) mainGlobals (Str.ofString "_law_boxes") = some (some (.ref 153)) := by k_is
theorem keep_boxes (P : Params) : keepIn (hd.heap_39 P) (.ref 153) = true := by k_is
theorem n_p229 (P : Params) : nsIn (hd.heap_39 P) mainGlobals (Str.ofString "parse229") = some (some (.ref 79)) := by k_is
theorem keep_p229 (P : Params) : keepIn (hd.heap_39 P) (.ref 79) = true := by k_is
theorem n_str (P : Params) : nsIn (hd.heap_39 P) mainGlobals (Str.ofString "str") = some none := by k_is
theorem b_str {Γ : G} {env : Env} {k : Nat} (S : Site Γ k) (eg : EnvG env) (hx : env.kindOf (Str.ofString "str") = some .globalImplicit) : Glb Γ env (Str.ofString "str") (.type "str") := Glb.builtin S eg n_str (by boot_fast) (by decide) hx (by decide)
theorem Ev.and2 {Γ : G} {env : Env} {ρ : Store} {e₁ e₂ : Expr} {pos : Pos} {d : D} (h₁ : Ev Γ env ρ e₁ (.bool true)) (h₂ : Ev Γ env ρ e₂ d) : Ev Γ env ρ (.BoolOp .And [e₁, e₂] pos) d := by
  constructor; intro O s ok Q hQ
  refine BoolOp_and (h₁.run O s ok _ fun v h' tk' g r => ?_)
  obtain rfl := r.inv
  refine truthy_bool ?_
  rw [if_pos rfl]
  exact BoolOp_one (h₂.run O { s with heap := h', toks := tk' } (ok.grow g) _ fun v h₂ tk₂ g₂ r => hQ v h₂ tk₂ (StaysIn.trans g g₂) r)
theorem natL_eq (l : List Nat) : natL l = intL (natI l) := by rw [natL, intL, natI, List.map_map]; rfl
theorem cmark : Str.ofString "|!~" = ⟨#[124, 33, 126]⟩ := by decide +kernel
theorem c229a : Str.ofString "229 carried by (" = ⟨#[50, 50, 57, 32, 99, 97, 114, 114, 105, 101, 100, 32, 98, 121, 32, 40]⟩ := by decide +kernel
theorem p229_arr (m : Nat) (ds : List Nat) : #[50, 50, 57, 32, 99, 97, 114, 114, 105, 101, 100, 32, 98, 121, 32, 40] ++ #[m, m, m] ++ ds.toArray ++ #[m] ++ #[41] = (p229 m ds).toArray := by
  unfold p229 pre229
  simp
theorem digits_of {q : Int} (h0 : 0 ≤ q) (h1 : q < 10 ^ 10) : ∃ ds : List Nat, Str.ofString (toString q) = ⟨ds.toArray⟩ ∧ (∀ c ∈ ds, 48 ≤ c ∧ c ≤ 57) ∧ ds.length ≤ 10 := by
  obtain ⟨m, rfl⟩ := Int.eq_ofNat_of_zero_le h0
  refine ⟨(Str.ofString (toString ((m : Nat) : Int))).cps.toList, by simp, ?_, KT.len_num h0 h1⟩
  intro c hc
  rw [KIN.signs_num] at hc
  obtain ⟨ch, hch, e⟩ := List.mem_map.mp hc
  have r := PyProof.Rows.digit_range (Nat.isDigit_of_mem_toDigits (by decide) (by decide) hch)
  rw [← e]
  exact r
set_option maxHeartbeats 8000000 in
theorem quota_b {s u : Int} (h0 : 0 ≤ s) (h1 : s ≤ 8000) (a : 0 ≤ u) (b : u < s.fdiv 4 + 1) : 1 ≤ s.fdiv 2 + 1 + u ∧ s.fdiv 2 + 1 + u < 10 ^ 10 := by
  rw [Int.fdiv_eq_ediv_of_nonneg _ (by decide)] at b ⊢
  have e1 := Int.ediv_le_self 2 h0
  have e2 := Int.ediv_nonneg h0 (by decide : (0 : Int) ≤ 2)
  have e3 := Int.ediv_le_self 4 h0
  have e4 : (10 : Int) ^ 10 = 10000000000 := by decide
  rw [e4]
  generalize s / 2 = x at *
  generalize s / 4 = y at *
  clear e4
  constructor <;> omega
theorem mark_fin : ∀ i : Fin 3, ∃ m : Nat, (m = 124 ∨ m = 33 ∨ m = 126) ∧ (⟨#[124, 33, 126]⟩ : Str).cps[i.val]? = some m := fun i =>
  ⟨[124, 33, 126].getD i.val 0, (by decide : ∀ i : Fin 3, [124, 33, 126].getD i.val 0 = 124 ∨ [124, 33, 126].getD i.val 0 = 33 ∨ [124, 33, 126].getD i.val 0 = 126) i,
    (by decide : ∀ i : Fin 3, (#[124, 33, 126] : Array Nat)[i.val]? = some ([124, 33, 126].getD i.val 0)) i⟩
theorem cell_b {c : Int} {n : Nat} (h : 0 ≤ c ∧ c ≤ 546 + (n : Int) * 110592) (h2 : n ≤ 10) : 0 ≤ c ∧ c ≤ 2000000 := by omega
theorem div32 (n : Nat) : (n : Int).fdiv 32 = ((n / 32 : Nat) : Int) := Int.fdiv_eq_ediv_of_nonneg _ (by decide)
theorem abs_lt {q : Int} (h1 : 1 ≤ q) (h2 : q < 10 ^ 10) : q.natAbs.log2 < 1920 := by
  obtain ⟨n, rfl⟩ := Int.eq_ofNat_of_zero_le (Int.le_trans (by decide) h1)
  rw [Int.natAbs_natCast]
  exact Nat.lt_of_lt_of_le ((Nat.log2_lt (fun e => by rw [e] at h1; exact absurd h1 (by decide))).mpr (Nat.lt_of_lt_of_le (Int.ofNat_lt.mp (show ((n : Nat) : Int) < ((10 ^ 10 : Nat) : Int) from h2)) (by decide : 10 ^ 10 ≤ 2 ^ 40))) (by decide)
theorem add_k {x : Int} (h : 1 ≤ x) (k : Nat) : x + (0 + (k : Int)) = ((x.toNat + k : Nat) : Int) := by
  rw [Int.zero_add, Int.natCast_add, Int.toNat_of_nonneg (Int.le_trans (by decide) h)]
theorem whole : PySem.Challenge.rw_tv0013_01.Holds := by
  refine Mine.hd ?_
  k_go0
  (all_goals try k_fold)
  rename_i N0 X0
  refine law_end (p := Str.ofString "script") ‹Fr _ _ _ _› ‹(hd.heap_39 _).In _› ⟨_, _, _, _, ‹Top hd.view_39 _ _ _ _ _›⟩ ?hk (x1 := Str.ofString "least") (x2 := Str.ofString "told") ?hcells ?hx ?N1 ?N2 ?hm ‹Heap.IsList _ _ _› ‹IntsAre _ _› ?hkp ?hp1 ?hp2 ?hdb ?hq ?ex
  case hk => rfl
  case hcells => kernel_rfl!
  case hx => kernel_rfl!
  case hm => kernel_rfl!
  case hkp => kernel_rfl!
  case hp1 => kernel_rfl!
  case hp2 => kernel_rfl!
  case hdb => kernel_rfl!
  case N1 => exact ⟨_, _, (N0 _ (by first | exact .head _ | exact .tail _ (.head _))).1, by assumption⟩
  case N2 => exact ⟨_, _, (N0 _ (by first | exact .tail _ (.head _) | exact .head _)).1, by assumption⟩
  case hq =>
    intro h' tk' hk
    refine ⟨.inl ⟨.bool true, .bool true, [], rfl, ?_, ?_, ?_, ?_⟩, hk, rfl, by assumption⟩
    · intro cls; rfl
    · constructor
    · kernel_rfl!
    · intro _; exact ⟨.nil, fun _ h => nomatch h⟩
  case ex =>
  rename List Int => xs
  have hw : xs.length ≤ 63 := by
    have h : ¬ ((63 : Nat) : Int) < (xs.length : Int) := by assumption
    exact Nat.not_lt.mp fun q => h (Int.ofNat_lt.mpr q)
  intro Γ S h0 σ p1
  have hC5 : (cellsF xs).length = 5 := cellsAt_len _ _
  have hCb : ∀ c ∈ cellsF xs, 0 ≤ c ∧ c ≤ 2000000 := fun c hc => by
    have := cellsAt_bound _ _ c hc
    exact cell_b this (List.length_take_le 10 xs)
  generalize hC : cellsF xs = C at hC5 hCb
  generalize hcs : (if decide ((4 : Int) < xs.length) = true then C else C.take 4) = cs
  have hcsl : 0 < cs.length ∧ cs.length ≤ 5 := by
    rw [← hcs]; split
    · rw [hC5]; decide
    · rw [List.length_take, hC5]; decide
  generalize hnums : cs.map (fun c : Int => (c.fmod 768).toNat) = nums
  have hnl : nums.length = cs.length := by rw [← hnums, List.length_map]
  have hnb : ∀ n ∈ nums, n < 768 := fun n hn => by
    rw [← hnums] at hn
    obtain ⟨c, _, rfl⟩ := List.mem_map.mp hn
    exact (Int.toNat_lt (Int.fmod_nonneg_of_pos c (by decide : (0 : Int) < 768))).mpr (Int.fmod_lt_of_pos c (by decide : (0 : Int) < 768))
  generalize hws : nums.map (fun n : Nat => weightF (n : Int)) = ws
  have hwl : ws.length = nums.length := by rw [← hws, List.length_map]
  have hn5 : nums.length ≤ 5 := by rw [hnl]; exact hcsl.2
  have hw0 : 0 < ws.length := by rw [hwl, hnl]; exact hcsl.1
  have hw5 : ws.length ≤ 5 := by rw [hwl]; exact hn5
  have hwb : ∀ w ∈ ws, 0 ≤ w ∧ w ≤ 1600 := fun w hw => by
    rw [← hws] at hw
    obtain ⟨n, hn, rfl⟩ := List.mem_map.mp hw
    have := voter (hnb n hn)
    exact ⟨this.1, this.2.1⟩
  have hsum := sum_take_bound ws 1600 hwb
  have hsum5 : ws.sum ≤ 8000 := by
    have : (ws.length : Int) * 1600 ≤ 5 * 1600 := Int.mul_le_mul_of_nonneg_right (Int.ofNat_le.mpr hw5) (by decide)
    exact Int.le_trans hsum.2 (Int.le_trans this (by decide))
  have hq4 : 0 < ws.sum.fdiv 4 + 1 := Int.lt_add_one_of_le (by rw [Int.fdiv_eq_ediv_of_nonneg _ (by decide)]; exact Int.ediv_nonneg hsum.1 (by decide))
  have hqb := quota_b hsum.1 hsum5 (Int.fmod_nonneg_of_pos (C.sum.fdiv 3) hq4) (Int.fmod_lt_of_pos (C.sum.fdiv 3) hq4)
  generalize hq : ws.sum.fdiv 2 + 1 + (C.sum.fdiv 3).fmod (ws.sum.fdiv 4 + 1) = q at hqb
  obtain ⟨hq1, hqb⟩ := hqb
  have hq0 : 0 ≤ q := Int.le_trans (by decide) hq1
  obtain ⟨ds, hds, hdg, hdl⟩ := digits_of hq0 hqb
  obtain ⟨m, hm, hmk⟩ : ∃ m : Nat, (m = 124 ∨ m = 33 ∨ m = 126) ∧ (Str.ofString "|!~").cps[(C.sum.fmod 3).toNat]? = some m := by
    rw [cmark]
    exact mark_fin ⟨_, (Int.toNat_lt (Int.fmod_nonneg_of_pos C.sum (by decide : (0 : Int) < 3))).mpr (Int.fmod_lt_of_pos C.sum (by decide : (0 : Int) < 3))⟩
  have hmk0 := Int.fmod_nonneg_of_pos C.sum (by decide : (0 : Int) < 3)
  have hmk1 := Int.fmod_lt_of_pos C.sum (by decide : (0 : Int) < 3)
  have hp : PosW ws := pos_of fun w hw => (hwb w hw).1
  have hol : (nums.map orderN).length = ws.length := by rw [List.length_map, hwl]
  have hok : ∀ o ∈ nums.map orderN, OrdOk 4 o := fun o ho => by
    obtain ⟨n, hn, rfl⟩ := List.mem_map.mp ho
    exact order_ok (hnb n hn)
  have hwinl : (winsF ws q).length = 2 ^ ws.length := by unfold winsF; rw [List.length_map, sumsF_len]
  have hfitC := sum_fit (ns := C) (B := 2000000) hCb (by decide) (by decide) (by rw [hC5]; decide)
  -- cells
  refine Ex.cons (Ex1.assign (d := .lst (intL C)) (Ev.callF S (Glb.fn S (by (refine EnvG.mk' ?_ ?_ ?_ <;> kernel_rfl!)) n_cells (by kernel_rfl!) (by decide)) keep_cells (EvS.cons (Ev.name p1) EvS.nil (by kernel_rfl!)) (hC ▸ cells_fn S xs hw) (by kernel_rfl!)) (by (first | (refine Wr.loc ?_ ?_ ?_ <;> kernel_rfl!) | (refine Wr.cell ?_ ?_ ?_ <;> kernel_rfl!))) (seqR_next ?_) (by kernel_rfl!))
  -- numbers
  refine Ex.cons (Ex1.assignComp S (l := cs) (gt := .int) (fr := []) (cl := []) (fun _ => true) (fun c => .int (c.fmod 768)) (Src.list S ?src) ?cokN (fun a _ C => EvIf.nil) (fun c _ _ _ => Ev.bin (Ev.name compS_x) Ev.int (Bin.mod (by decide))) (by kernel_rfl!) (by (first | (refine Wr.loc ?_ ?_ ?_ <;> kernel_rfl!) | (refine Wr.cell ?_ ?_ ?_ <;> kernel_rfl!))) (seqR_next ?_) (Nat.le_trans hcsl.2 (by decide)) (by kernel_rfl!))
  case cokN => exact ⟨by kernel_rfl!, by kernel_rfl!, by decide, fun C => .inl ⟨by kernel_rfl!, by kernel_rfl!⟩, by kernel_rfl!, fun C y hy => by cases hy⟩
  case src =>
    refine Ev.ite (c := decide ((4 : Int) < xs.length)) (EvT.cmp (Ev.lenName (n := xs.length) S (by (refine EnvG.mk' ?_ ?_ ?_ <;> kernel_rfl!)) (by kernel_rfl!) (EvL.of (Ev.name (by (repeat' (with_reducible first | exact upd_eq | assumption | refine upd_ne (by kernel_rfl!) ?_))))) (List.length_map _) (Nat.lt_of_le_of_lt hw (by decide))) Ev.int Cmp.gt (by kernel_rfl!)) (fun q => ?_) (fun q => ?_)
    · rw [← hcs, if_pos q]; exact Ev.name (by (repeat' (with_reducible first | exact upd_eq | assumption | refine upd_ne (by kernel_rfl!) ?_)))
    · rw [← hcs, if_neg (by rw [q]; decide)]
      have e : intL (C.take 4) = sliceD (intL C) none (some 4) := slice_upto.symm
      rw [show (C.take 4).map D.int = sliceD (intL C) none (some 4) from e]
      exact Ev.slice (EvL.of (Ev.name (by (repeat' (with_reducible first | exact upd_eq | assumption | refine upd_ne (by kernel_rfl!) ?_))))) EvP.none (EvP.some Ev.int) (by rw [List.length_map, hC5]; decide)
  have enum : (cs.filter fun _ => true).map (fun c : Int => D.int (c.fmod 768)) = natL nums := by
    rw [pv_filter_true, ← hnums, natL, List.map_map]
    apply List.map_congr_left
    intro c _
    show D.int _ = D.int _
    congr 1
    exact (Int.toNat_of_nonneg (Int.fmod_nonneg_of_pos c (by decide))).symm
  rw [enum]
  -- weights
  refine Ex.cons (Ex1.assignComp S (l := nums) (gt := fun n : Nat => .int (n : Int)) (fr := []) (cl := []) (fun _ => true) (fun n : Nat => .int (weightF (n : Int))) (Src.list S (Ev.name upd_eq)) ?cokW (fun a _ C => EvIf.nil) (fun n _ _ _ => Ev.callF S (Glb.fn S (by (refine EnvG.mk' ?_ ?_ ?_ <;> kernel_rfl!)) n_weight (by kernel_rfl!) (by decide)) keep_weight (EvS.cons (Ev.name compS_x) EvS.nil (by kernel_rfl!)) (weight_fn S _) (by kernel_rfl!)) (by kernel_rfl!) (by (first | (refine Wr.loc ?_ ?_ ?_ <;> kernel_rfl!) | (refine Wr.cell ?_ ?_ ?_ <;> kernel_rfl!))) (seqR_next ?_) (Nat.le_trans hn5 (by decide)) (by kernel_rfl!))
  case cokW => exact ⟨by kernel_rfl!, by kernel_rfl!, by decide, fun C => .inl ⟨by kernel_rfl!, by kernel_rfl!⟩, by kernel_rfl!, fun C y hy => by cases hy⟩
  have ewts : (nums.filter fun _ => true).map (fun n : Nat => D.int (weightF (n : Int))) = intL ws := by
    rw [pv_filter_true, ← hws, intL, List.map_map]; rfl
  rw [ewts]
  -- total, quota, mark
  refine Ex.cons (Ex1.assign (d := .int ws.sum) (Ev.callB (b_sum S (by (refine EnvG.mk' ?_ ?_ ?_ <;> kernel_rfl!)) (by kernel_rfl!)) (EvS.cons (Ev.name upd_eq) EvS.nil (by kernel_rfl!)) (CallR.sum S (sum_fit hwb (by decide) (by decide) (Nat.le_trans hw5 (by decide)))) (by kernel_rfl!)) (by (first | (refine Wr.loc ?_ ?_ ?_ <;> kernel_rfl!) | (refine Wr.cell ?_ ?_ ?_ <;> kernel_rfl!))) (seqR_next ?_) (by kernel_rfl!))
  refine Ex.cons (Ex1.assign (d := .int q) (Ev.of_eq (Ev.bin (Ev.bin (Ev.bin (Ev.name (by (repeat' (with_reducible first | exact upd_eq | assumption | refine upd_ne (by kernel_rfl!) ?_)))) Ev.int (Bin.fdiv (by decide) (fdiv_small (by decide)))) Ev.int Bin.add) (Ev.bin (Ev.bin (Ev.callB (b_sum S (by (refine EnvG.mk' ?_ ?_ ?_ <;> kernel_rfl!)) (by kernel_rfl!)) (EvS.cons (Ev.name (by (repeat' (with_reducible first | exact upd_eq | assumption | refine upd_ne (by kernel_rfl!) ?_)))) EvS.nil (by kernel_rfl!)) (CallR.sum S hfitC) (by kernel_rfl!)) Ev.int (Bin.fdiv (by decide) (fdiv_small (by decide)))) (Ev.bin (Ev.bin (Ev.name (by (repeat' (with_reducible first | exact upd_eq | assumption | refine upd_ne (by kernel_rfl!) ?_)))) Ev.int (Bin.fdiv (by decide) (fdiv_small (by decide)))) Ev.int Bin.add) (Bin.mod (Int.ne_of_gt hq4))) Bin.add) (by rw [hq])) (by (first | (refine Wr.loc ?_ ?_ ?_ <;> kernel_rfl!) | (refine Wr.cell ?_ ?_ ?_ <;> kernel_rfl!))) (seqR_next ?_) (by kernel_rfl!))
  refine Ex.cons (Ex1.assign (d := .str ⟨#[m]⟩) (Ev.itemS Ev.str (Ev.bin (Ev.callB (b_sum S (by (refine EnvG.mk' ?_ ?_ ?_ <;> kernel_rfl!)) (by kernel_rfl!)) (EvS.cons (Ev.name (by (repeat' (with_reducible first | exact upd_eq | assumption | refine upd_ne (by kernel_rfl!) ?_)))) EvS.nil (by kernel_rfl!)) (CallR.sum S hfitC) (by kernel_rfl!)) Ev.int (Bin.mod (by decide))) hmk0 (Int.lt_trans hmk1 (by decide)) hmk (by kernel_rfl!)) (by (first | (refine Wr.loc ?_ ?_ ?_ <;> kernel_rfl!) | (refine Wr.cell ?_ ?_ ?_ <;> kernel_rfl!))) (seqR_next ?_) (by kernel_rfl!))
  -- told
  refine Ex.cons (Ex1.assign (d := .tup [.str (Str.ofString "hall"), .int q]) (Ev.callF S (Glb.fn S (by (refine EnvG.mk' ?_ ?_ ?_ <;> kernel_rfl!)) n_p229 (by kernel_rfl!) (by decide)) keep_p229 (ds := [.str ⟨(p229 m ds).toArray⟩, .tup [.str (Str.ofString "hall"), .int 21]]) (EvS.cons (Ev.of_eq (Ev.bin (d₁ := .str ⟨#[50, 50, 57, 32, 99, 97, 114, 114, 105, 101, 100, 32, 98, 121, 32, 40] ++ #[m, m, m] ++ ds.toArray ++ #[m]⟩) (Ev.of_eq (Ev.bin (d₁ := .str ⟨#[50, 50, 57, 32, 99, 97, 114, 114, 105, 101, 100, 32, 98, 121, 32, 40] ++ #[m, m, m] ++ ds.toArray⟩) (Ev.of_eq (Ev.bin (d₁ := .str ⟨#[50, 50, 57, 32, 99, 97, 114, 114, 105, 101, 100, 32, 98, 121, 32, 40] ++ #[m, m, m]⟩) (Ev.of_eq (Ev.bin Ev.str (Ev.bin Ev.int (Ev.name (by (repeat' (with_reducible first | exact upd_eq | assumption | refine upd_ne (by kernel_rfl!) ?_)))) Bin.mul3S) (Bin.addS ?z1)) ?e1) (Ev.callT (b_str S (by (refine EnvG.mk' ?_ ?_ ?_ <;> kernel_rfl!)) (by kernel_rfl!)) (EvS.cons (Ev.name (by (repeat' (with_reducible first | exact upd_eq | assumption | refine upd_ne (by kernel_rfl!) ?_)))) EvS.nil (by kernel_rfl!)) (CallR.strI ?lg) (by kernel_rfl!)) (Bin.addS ?z2)) ?e2) (Ev.name (by (repeat' (with_reducible first | exact upd_eq | assumption | refine upd_ne (by kernel_rfl!) ?_)))) (Bin.addS ?z3)) ?e3) Ev.str (Bin.addS ?z4)) ?e4) (EvS.cons (Ev.tup (EvS.cons Ev.str (EvS.cons Ev.int EvS.nil (by kernel_rfl!)) (by kernel_rfl!)) (Nat.le_of_ble_eq_true rfl)) EvS.nil (by kernel_rfl!)) (by kernel_rfl!)) (parse229_fn S m q hm hq0 hqb hds hdg hdl _) (by kernel_rfl!)) (by (first | (refine Wr.loc ?_ ?_ ?_ <;> kernel_rfl!) | (refine Wr.cell ?_ ?_ ?_ <;> kernel_rfl!))) (seqR_next ?_) (by kernel_rfl!))
  case z1 => rw [c229a]; show 16 + 3 ≤ sizeLine; decide
  case e1 => rw [c229a, str_app]
  case lg => exact abs_lt hq1 hqb
  case z2 => rw [hds, str_len, sizeStr]; exact Nat.le_trans (by show 19 + ds.length ≤ 100; exact Nat.le_trans (Nat.add_le_add_left hdl 19) (by decide)) (by decide : 100 ≤ sizeLine)
  case e2 => rw [hds, str_app]
  case z3 => rw [str_len, Array.size_append, List.size_toArray]; exact Nat.le_trans (by show 19 + ds.length + 1 ≤ 100; exact Nat.le_trans (Nat.succ_le_succ (Nat.add_le_add_left hdl 19)) (by decide)) (by decide : 100 ≤ sizeLine)
  case e3 => rw [str_app]
  case z4 => rw [str_len, Array.size_append, Array.size_append, List.size_toArray, crp]; exact Nat.le_trans (by show 19 + ds.length + 1 + 1 ≤ 100; exact Nat.le_trans (Nat.succ_le_succ (Nat.succ_le_succ (Nat.add_le_add_left hdl 19))) (by decide)) (by decide : 100 ≤ sizeLine)
  case e4 => rw [crp, str_app, p229_arr]
  -- heard
  refine Ex.cons (Ex1.assignComp S (l := nums) (gt := fun n : Nat => .int (n : Int)) (fr := []) (cl := []) (fun _ => true) (fun n : Nat => .int (n : Int)) (Src.list S (Ev.name (by (repeat' (with_reducible first | exact upd_eq | assumption | refine upd_ne (by kernel_rfl!) ?_))))) ?cokH (fun a _ C => EvIf.nil) (fun n hn _ _ => Ev.callF S (Glb.fn S (by (refine EnvG.mk' ?_ ?_ ?_ <;> kernel_rfl!)) n_heard (by kernel_rfl!) (by decide)) keep_heard (EvS.cons (Ev.callF S (Glb.fn S (by (refine EnvG.mk' ?_ ?_ ?_ <;> kernel_rfl!)) n_sent (by kernel_rfl!) (by decide)) keep_sent (EvS.cons (Ev.name compS_x) EvS.nil (by kernel_rfl!)) (sent_fn S n (hnb n hn)) (by kernel_rfl!)) EvS.nil (by kernel_rfl!)) (heard_fn S n (hnb n hn)) (by kernel_rfl!)) (by kernel_rfl!) (by (first | (refine Wr.loc ?_ ?_ ?_ <;> kernel_rfl!) | (refine Wr.cell ?_ ?_ ?_ <;> kernel_rfl!))) (seqR_next ?_) (Nat.le_trans hn5 (by decide)) (by kernel_rfl!))
  case cokH => exact ⟨by kernel_rfl!, by kernel_rfl!, by decide, fun C => .inl ⟨by kernel_rfl!, by kernel_rfl!⟩, by kernel_rfl!, fun C y hy => by cases hy⟩
  rw [show (nums.filter fun _ => true).map (fun n : Nat => D.int (n : Int)) = natL nums by rw [pv_filter_true]]
  -- lights
  have hlamp : (nums.map lampT).map w3 = ws := by
    rw [← hws, List.map_map]
    exact List.map_congr_left fun n hn => (voter (hnb n hn)).2.2.1
  refine Ex.cons (Ex1.assign (d := .lst (intL (sumsF ws))) (Ev.of_eq (Ev.callF S (Glb.fn S (by (refine EnvG.mk' ?_ ?_ ?_ <;> kernel_rfl!)) n_lights (by kernel_rfl!) (by decide)) keep_lights (ds := [.lst ((nums.map lampT).map t3D)]) (EvS.cons (Ev.of_eq (Ev.comp S (l := nums) (gt := fun n : Nat => .int (n : Int)) (fr := []) (cl := []) (fun _ => true) (fun n : Nat => t3D (lampT n)) (Src.list S (Ev.name upd_eq)) ?cokL (fun a _ C => EvIf.nil) (fun n hn _ _ => Ev.callF S (Glb.fn S (by (refine EnvG.mk' ?_ ?_ ?_ <;> kernel_rfl!)) n_lamp (by kernel_rfl!) (by decide)) keep_lamp (EvS.cons (Ev.name compS_x) EvS.nil (by kernel_rfl!)) (lampD_eq n ▸ lamp_fn S (n : Int)) (by kernel_rfl!)) (Nat.le_trans hn5 (by decide)) (by kernel_rfl!)) ?eqL) EvS.nil (by kernel_rfl!)) (lights_fn S (nums.map lampT) (by rw [List.length_map]; exact hn5) ?h16 roundsTo) (by kernel_rfl!)) ?eqL2) (by (first | (refine Wr.loc ?_ ?_ ?_ <;> kernel_rfl!) | (refine Wr.cell ?_ ?_ ?_ <;> kernel_rfl!))) (seqR_next ?_) (by kernel_rfl!))
  case cokL => exact ⟨by kernel_rfl!, by kernel_rfl!, by decide, fun C => .inl ⟨by kernel_rfl!, by kernel_rfl!⟩, by kernel_rfl!, fun C y hy => by cases hy⟩
  case eqL => rw [pv_filter_true, List.map_map]; rfl
  case h16 =>
    intro t ht
    obtain ⟨n, hn, rfl⟩ := List.mem_map.mp ht
    exact (voter (hnb n hn)).2.2.2
  case eqL2 => rw [lights_eq, hlamp]
  -- the first test
  refine Ex.cons (Ex1.ite (b := false) (EvT.of_eq (EvT.or (EvT.cmp (Ev.of_eq (d' := .lst (intL (natI nums))) (Ev.name (by (repeat' (with_reducible first | exact upd_eq | assumption | refine upd_ne (by kernel_rfl!) ?_)))) (by rw [natL_eq])) (Ev.of_eq (d' := .lst (intL (natI nums))) (Ev.name (by (repeat' (with_reducible first | exact upd_eq | assumption | refine upd_ne (by kernel_rfl!) ?_)))) (by rw [natL_eq])) (Cmp.neL S) (by kernel_rfl!)) fun _ => EvT.or (EvT.cmp (Ev.name (by (repeat' (with_reducible first | exact upd_eq | assumption | refine upd_ne (by kernel_rfl!) ?_)))) (Ev.tup (EvS.cons Ev.str (EvS.cons (Ev.name (by (repeat' (with_reducible first | exact upd_eq | assumption | refine upd_ne (by kernel_rfl!) ?_)))) EvS.nil (by kernel_rfl!)) (by kernel_rfl!)) (Nat.le_of_ble_eq_true rfl)) (Cmp.neP S (by decide +kernel)) (by kernel_rfl!)) fun _ => EvT.or (EvT.cmp (Ev.name (by (repeat' (with_reducible first | exact upd_eq | assumption | refine upd_ne (by kernel_rfl!) ?_)))) (Ev.callF S (Glb.fn S (by (refine EnvG.mk' ?_ ?_ ?_ <;> kernel_rfl!)) n_sums (by kernel_rfl!) (by decide)) keep_sums (EvS.cons (Ev.name (by (repeat' (with_reducible first | exact upd_eq | assumption | refine upd_ne (by kernel_rfl!) ?_)))) EvS.nil (by kernel_rfl!)) (sums_fn S ws hw5) (by kernel_rfl!)) (Cmp.neL S) (by kernel_rfl!)) fun _ => EvT.orNil) (by simp)) (fun q => by cases q) fun _ => Ex.nil (seqR_next ?_))
  -- wins
  refine Ex.cons (Ex1.assignComp S (l := sumsF ws) (gt := .int) (fr := [Str.ofString "told"]) (cl := [(Str.ofString "told", Γ.L + 1)]) (fun _ => true) (fun x => .bool (decide (q ≤ x))) (Src.list S (Ev.name (by (repeat' (with_reducible first | exact upd_eq | assumption | refine upd_ne (by kernel_rfl!) ?_))))) ?cokV (fun a _ C => EvIf.nil) (fun x _ _ C => Ev.cmp (Ev.name compS_x) (Ev.itemT (ds := [.str (Str.ofString "hall"), .int q]) (Ev.name (compS_y (by kernel_rfl!) (by kernel_rfl!) (by (repeat' (with_reducible first | exact upd_eq | assumption | refine upd_ne (by kernel_rfl!) ?_))))) Ev.int (by decide) (by decide) rfl (by kernel_rfl!)) Cmp.ge (by kernel_rfl!)) (by kernel_rfl!) (by (first | (refine Wr.loc ?_ ?_ ?_ <;> kernel_rfl!) | (refine Wr.cell ?_ ?_ ?_ <;> kernel_rfl!))) (seqR_next ?_) ?szV (by kernel_rfl!))
  case cokV =>
    refine ⟨by kernel_rfl!, by kernel_rfl!, by decide, fun C => .inl ⟨by kernel_rfl!, by kernel_rfl!⟩, by kernel_rfl!, fun C y hy => ?_⟩
    rw [List.mem_singleton.mp hy]
    exact ⟨Γ.L + 1, by kernel_rfl!, by kernel_rfl!, (by first | exact .inl (by kernel_rfl!) | exact .inr (by kernel_rfl!)), by kernel_rfl!, by kernel_rfl!⟩
  case szV =>
    rw [sumsF_len]
    exact Nat.le_trans (Nat.pow_le_pow_right (by decide : 0 < 2) hw5) (by decide)
  rw [show ((sumsF ws).filter fun _ => true).map (fun x => D.bool (decide (q ≤ x))) = boolL (winsF ws q) by rw [pv_filter_true, boolL, winsF, List.map_map]; rfl]
  -- drawn
  refine Ex.cons (Ex1.assign (d := .lst (intL (roundsF (natI (beatenF (nums.map orderN) (winsF ws q) 4))))) (Ev.callF S (Glb.fn S (by (refine EnvG.mk' ?_ ?_ ?_ <;> kernel_rfl!)) n_rounds (by kernel_rfl!) (by decide)) keep_rounds (EvS.cons (Ev.of_eq (Ev.callF S (Glb.fn S (by (refine EnvG.mk' ?_ ?_ ?_ <;> kernel_rfl!)) n_beaten (by kernel_rfl!) (by decide)) keep_beaten (ds := [ordD (nums.map orderN), .lst (boolL (winsF ws q))]) (EvS.cons (Ev.of_eq (Ev.comp S (l := nums) (gt := fun n : Nat => .int (n : Int)) (fr := []) (cl := []) (fun _ => true) (fun n : Nat => .lst (natL (orderN n))) (Src.list S (Ev.name (by (repeat' (with_reducible first | exact upd_eq | assumption | refine upd_ne (by kernel_rfl!) ?_))))) ?cokO (fun a _ C => EvIf.nil) (fun n hn _ _ => ?eltO) (Nat.le_trans hn5 (by decide)) (by kernel_rfl!)) ?eqO) (EvS.cons (Ev.name upd_eq) EvS.nil (by kernel_rfl!)) (by kernel_rfl!)) (beaten_fn S (nums.map orderN) (winsF ws q) 4 (by rw [hol]; exact hw0) (by rw [hol]; exact hw5) (by decide) hok (by rw [hol]; exact hwinl)) (by kernel_rfl!)) (by rw [natL_eq])) EvS.nil (by kernel_rfl!)) (rounds_fn S _ (by rw [List.length_map, beaten_len]; decide)) (by kernel_rfl!)) (by (first | (refine Wr.loc ?_ ?_ ?_ <;> kernel_rfl!) | (refine Wr.cell ?_ ?_ ?_ <;> kernel_rfl!))) (seqR_next ?_) (by kernel_rfl!))
  case cokO => exact ⟨by kernel_rfl!, by kernel_rfl!, by decide, fun C => .inl ⟨by kernel_rfl!, by kernel_rfl!⟩, by kernel_rfl!, fun C y hy => by cases hy⟩
  case eqO => rw [pv_filter_true, ordD, List.map_map]; rfl
  case eltO =>
    have hn' := hnb n hn
    have e32 : (n : Int).fdiv 32 = ((n / 32 : Nat) : Int) := div32 n
    refine Ev.of_eq (Ev.callF S (Glb.fn S (by (refine EnvG.mk' ?_ ?_ ?_ <;> kernel_rfl!)) n_order (by kernel_rfl!) (by decide)) keep_order (EvS.cons (Ev.of_eq (Ev.bin (Ev.name compS_x) Ev.int (Bin.fdiv (by decide) (fdiv_small (by decide)))) (by rw [e32])) EvS.nil (by kernel_rfl!)) (order_fn S ((n / 32 : Nat) : Int) (Int.natCast_nonneg _) (Int.ofNat_lt.mpr (Nat.div_lt_of_lt_mul hn'))) (by kernel_rfl!)) ?_
    rw [natL_eq, ← order_int hn']
  -- where
  refine Ex.cons (Ex1.assign (d := .lst (intL (boxesF ws (ws.sum - q)))) (Ev.callF S (Glb.fn S (by (refine EnvG.mk' ?_ ?_ ?_ <;> kernel_rfl!)) n_boxes (by kernel_rfl!) (by decide)) keep_boxes (EvS.cons (Ev.name (by (repeat' (with_reducible first | exact upd_eq | assumption | refine upd_ne (by kernel_rfl!) ?_)))) (EvS.cons (Ev.bin (Ev.name (by (repeat' (with_reducible first | exact upd_eq | assumption | refine upd_ne (by kernel_rfl!) ?_)))) (Ev.name (by (repeat' (with_reducible first | exact upd_eq | assumption | refine upd_ne (by kernel_rfl!) ?_)))) Bin.sub) EvS.nil (by kernel_rfl!)) (by kernel_rfl!)) (boxes_fn S ws (ws.sum - q) hw0 hw5) (by kernel_rfl!)) (by (first | (refine Wr.loc ?_ ?_ ?_ <;> kernel_rfl!) | (refine Wr.cell ?_ ?_ ?_ <;> kernel_rfl!))) (seqR_next ?_) (by kernel_rfl!))
  refine Ex.cons (Ex1.ite (b := decide (boxesF ws (ws.sum - q) = [])) (EvT.cmp (Ev.name upd_eq) (Ev.of_eq (d' := .lst (intL [])) (Ev.lst EvS.nil (by decide)) rfl) (Cmp.eqL S) (by kernel_rfl!)) (fun qe => ?none) fun qe => Ex.nil (seqR_next ?some))
  case none =>
    have qe' := of_decide_eq_true qe
    have hlt : ws.sum - q < foldMax ws := by
      rcases Decidable.em (ws.sum - q < foldMax ws) with h | h
      · exact h
      · obtain ⟨B, LY⟩ := law_yes (q := q) hol hok hp hw0 hw5 h
        have := LY.len
        rw [qe'] at this
        have : ([] : List Int).length = ws.length := this
        exact absurd hw0 (by rw [← show 0 = ws.length from this]; decide)
    have hno := law_no hol hok hp hw0 hlt
    refine Ex.cons (Ex1.ret (d := .bool true) (Ev.of_eq (Ev.cmp (Ev.name (by (repeat' (with_reducible first | exact upd_eq | assumption | refine upd_ne (by kernel_rfl!) ?_)))) (Ev.of_eq (d' := .lst (intL [])) (Ev.lst EvS.nil (by decide)) rfl) (Cmp.eqL S) (by kernel_rfl!)) ?_) (seqR_ret (seqR_ret rfl)))
    rw [hno]; rfl
  case some =>
  have qe' := of_decide_eq_false qe
  have hge : ¬ ws.sum - q < foldMax ws := fun h => qe' (if_pos h)
  obtain ⟨B, LY⟩ := law_yes (q := q) hol hok hp hw0 hw5 hge
  have lylen := LY.len
  have lymax := LY.max
  have lyone := LY.one
  have lyfive := LY.five
  have lybox := LY.box
  have lydrawn := LY.drawn
  have lybuilt := LY.built
  clear LY
  generalize hr : boxesF ws (ws.sum - q) = r at lylen lymax lybox lybuilt qe'
  generalize hdr : roundsF (natI (beatenF (nums.map orderN) (winsF ws q) 4)) = dr at lydrawn
  have hdrl : dr.length ≤ 32 := by
    rw [← hdr]
    unfold roundsF
    rw [List.length_map, beaten_len]
    exact Nat.le_trans (roundsAt_len _ _) (by decide)
  -- least
  refine Ex.cons (Ex1.assign (d := .int (B : Int)) (Ev.of_eq (Ev.callB (b_max S (by (refine EnvG.mk' ?_ ?_ ?_ <;> kernel_rfl!)) (by kernel_rfl!)) (EvS.cons (Ev.name (by (repeat' (with_reducible first | exact upd_eq | assumption | refine upd_ne (by kernel_rfl!) ?_)))) EvS.nil (by kernel_rfl!)) (CallR.max S (by rw [lylen]; exact hw0)) (by kernel_rfl!)) (by rw [lymax])) (by (first | (refine Wr.loc ?_ ?_ ?_ <;> kernel_rfl!) | (refine Wr.cell ?_ ?_ ?_ <;> kernel_rfl!))) (seqR_next ?_) (by kernel_rfl!))
  -- built
  have hbok : ∀ o ∈ r.map (fun x => ordB B x.toNat), OrdOk B o := fun o ho => by
    obtain ⟨x, hx, rfl⟩ := List.mem_map.mp ho
    have := lybox x hx
    exact ordB_ok lyone lyfive (Nat.le_trans (Int.toNat_le.mpr this.2) lyfive)
  refine Ex.cons (Ex1.assignComp S (l := r) (gt := .int) (fr := [Str.ofString "least"]) (cl := [(Str.ofString "least", Γ.L + 1 + 1)]) (fun _ => true) (fun x => .lst (natL (ordB B x.toNat))) (Src.list S (Ev.name (by (repeat' (with_reducible first | exact upd_eq | assumption | refine upd_ne (by kernel_rfl!) ?_))))) ?cokB (fun a _ C => EvIf.nil) (fun x hx _ C => ?eltB) (by kernel_rfl!) (by (first | (refine Wr.loc ?_ ?_ ?_ <;> kernel_rfl!) | (refine Wr.cell ?_ ?_ ?_ <;> kernel_rfl!))) (seqR_next ?_) (Nat.le_trans (by omega : r.length ≤ 5) (by decide)) (by kernel_rfl!))
  case cokB =>
    refine ⟨by kernel_rfl!, by kernel_rfl!, by decide, fun C => .inr ⟨by kernel_rfl!, by kernel_rfl!, by kernel_rfl!⟩, by kernel_rfl!, fun C y hy => ?_⟩
    rw [List.mem_singleton.mp hy]
    exact ⟨Γ.L + 1 + 1, by kernel_rfl!, by kernel_rfl!, (by first | exact .inl (by kernel_rfl!) | exact .inr (by kernel_rfl!)), by kernel_rfl!, by kernel_rfl!⟩
  case eltB =>
    have hxb := lybox x hx
    refine Ev.of_eq (Ev.comp S (l := List.range B) (gt := fun i : Nat => .int (0 + i)) (fr := [Str.ofString "box", Str.ofString "least"]) (cl := [(Str.ofString "least", Γ.L + 1 + 1), (Str.ofString "box", C + 1)]) (fun _ => true) (fun k : Nat => .int ((x + (0 + (k : Int))).fmod (B : Int))) (Src.range1 S (b_range S (by (refine EnvG.mk' ?_ ?_ ?_ <;> kernel_rfl!)) (by kernel_rfl!)) (Ev.name (compS_y (by kernel_rfl!) (by kernel_rfl!) (by (repeat' (with_reducible first | exact upd_eq | assumption | refine upd_ne (by kernel_rfl!) ?_))))) (Int.lt_of_le_of_lt (Int.ofNat_le.mpr lyfive) (by decide)) (by kernel_rfl!)) ?cokC (fun a _ C => EvIf.nil) (fun k hk _ C2 => Ev.bin (Ev.bin (Ev.name (compS_y (by kernel_rfl!) (by kernel_rfl!) compS_x)) (Ev.name compS_x) Bin.add) (Ev.name (compS_y (by kernel_rfl!) (by kernel_rfl!) (compS_y (by kernel_rfl!) (by kernel_rfl!) (by (repeat' (with_reducible first | exact upd_eq | assumption | refine upd_ne (by kernel_rfl!) ?_)))))) (Bin.mod (Int.natCast_ne_zero.mpr (Nat.ne_of_gt lyone)))) ?szC (by kernel_rfl!)) ?eqC
    case cokC =>
      refine ⟨by kernel_rfl!, by kernel_rfl!, by decide, fun C => .inl ⟨by kernel_rfl!, by kernel_rfl!⟩, by kernel_rfl!, fun C2 z hz => ?_⟩
      rcases List.mem_cons.mp hz with rfl | hz
      · exact ⟨C + 1, by kernel_rfl!, by kernel_rfl!, (by first | exact .inl (by kernel_rfl!) | exact .inr (by kernel_rfl!)), by kernel_rfl!, by kernel_rfl!⟩
      · rw [List.mem_singleton.mp hz]
        exact ⟨Γ.L + 1 + 1, by kernel_rfl!, by kernel_rfl!, (by first | exact .inl (by kernel_rfl!) | exact .inr (by kernel_rfl!)), by kernel_rfl!, by kernel_rfl!⟩
    case szC => rw [List.length_range]; exact Nat.le_trans lyfive (by decide)
    case eqC =>
      rw [pv_filter_true, natL, ordB, List.map_map]
      congr 1
      apply List.map_congr_left
      intro k _
      show D.int _ = D.int _
      congr 1
      rw [Int.fmod_eq_emod_of_nonneg _ (Int.natCast_nonneg B), add_k hxb.1]
      rfl
  have ebd : (r.filter fun _ => true).map (fun x => D.lst (natL (ordB B x.toNat))) = (r.map fun x => ordB B x.toNat).map (fun o => D.lst (natL o)) := by rw [pv_filter_true, List.map_map]; rfl
  rw [ebd]
  -- the last word
  refine Ex.cons (Ex1.ret (d := .bool true) (Ev.and2 (Ev.of_eq (Ev.cmp (Ev.callB (b_min S (by (refine EnvG.mk' ?_ ?_ ?_ <;> kernel_rfl!)) (by kernel_rfl!)) (EvS.cons (Ev.of_eq (d' := .lst (intL (dr ++ [(B : Int)]))) (Ev.bin (Ev.name (by (repeat' (with_reducible first | exact upd_eq | assumption | refine upd_ne (by kernel_rfl!) ?_)))) (Ev.lst (EvS.cons (Ev.name (by (repeat' (with_reducible first | exact upd_eq | assumption | refine upd_ne (by kernel_rfl!) ?_)))) EvS.nil (by kernel_rfl!)) (Nat.le_of_ble_eq_true rfl)) (Bin.addL ?szA)) ?eqA) EvS.nil (by kernel_rfl!)) (CallR.min S (by rw [List.length_append]; exact Nat.succ_pos _)) (by kernel_rfl!)) (Ev.name (by (repeat' (with_reducible first | exact upd_eq | assumption | refine upd_ne (by kernel_rfl!) ?_)))) Cmp.eq (by kernel_rfl!)) ?eqM) (Ev.of_eq (Ev.cmp (Ev.callF S (Glb.fn S (by (refine EnvG.mk' ?_ ?_ ?_ <;> kernel_rfl!)) n_rounds (by kernel_rfl!) (by decide)) keep_rounds (EvS.cons (Ev.of_eq (Ev.callF S (Glb.fn S (by (refine EnvG.mk' ?_ ?_ ?_ <;> kernel_rfl!)) n_beaten (by kernel_rfl!) (by decide)) keep_beaten (ds := [ordD (r.map fun x => ordB B x.toNat), .lst (boolL (winsF ws q))]) (EvS.cons (Ev.name upd_eq) (EvS.cons (Ev.name (by (repeat' (with_reducible first | exact upd_eq | assumption | refine upd_ne (by kernel_rfl!) ?_)))) EvS.nil (by kernel_rfl!)) (by kernel_rfl!)) (beaten_fn S _ (winsF ws q) B (by rw [List.length_map, lylen]; exact hw0) (by rw [List.length_map, lylen]; exact hw5) lyfive hbok (by rw [List.length_map, lylen]; exact hwinl)) (by kernel_rfl!)) (by rw [natL_eq])) EvS.nil (by kernel_rfl!)) (rounds_fn S _ (by rw [List.length_map, beaten_len]; exact lyfive)) (by kernel_rfl!)) (Ev.of_eq (d' := .lst (intL [(B : Int)])) (Ev.lst (EvS.cons (Ev.name (by (repeat' (with_reducible first | exact upd_eq | assumption | refine upd_ne (by kernel_rfl!) ?_)))) EvS.nil (by kernel_rfl!)) (Nat.le_of_ble_eq_true rfl)) rfl) (Cmp.eqL S) (by kernel_rfl!)) ?eqR)) (seqR_ret rfl))
  case szA => rw [List.length_map]; exact Nat.le_trans (by show dr.length + 1 ≤ 33; exact Nat.succ_le_succ (by assumption)) (by decide : 33 ≤ sizeLine)
  case eqA => rw [intL, intL, List.map_append]; rfl
  case eqM => rw [lydrawn]; simp
  case eqR => rw [lybuilt]; simp
end Mine
theorem PySem.Challenge.cw_tv0013_01_holds : PySem.Challenge.rw_tv0013_01.Holds := by
  exact Mine.whole
